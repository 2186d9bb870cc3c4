import PyProof.Rows.All
import Wide.All
import OpenK.AllK
import Wide.FinOn
import KE.KRevSl
import KE.KPairComp
import Lean
import PySem.Challenge.RW_lr0005_05
set_option Elab.async false
set_option genInjectivity false
set_option genSizeOf false
set_option genSizeOfSpec false
section
open PySem PySem.W PyProof.Rows
set_option maxRecDepth 100000
set_option maxHeartbeats 0
namespace Mine
noncomputable def topGoT (tb : String → Option Builtin) (p : Program) (w : World) (n₀ : Nat) (ann : Option Value) : Nat → SharedT → Thread → Option (SharedT × Thread)
  | 0, s, t => some (s, t)
  | n + 1, s, t => match through t with
    | true => none
    | false => match stepOk n₀ ann t with
      | false => none
      | true => match stepT (denote tb) p w s t with
        | some (s', t') => topGoT tb p w n₀ ann n s' t'
        | none => none
noncomputable def topRunT (tb : String → Option Builtin) (p : Program) (w : World) (n₀ : Nat) (ann : Option Value) : Nat → SharedT → Thread → Option SharedT
  | 0, _, _ => none
  | n + 1, s, t => match through t with
    | true => some s
    | false => match stepOk n₀ ann t with
      | false => none
      | true => match stepT (denote tb) p w s t with
        | some (s', t') => topRunT tb p w n₀ ann n s' t'
        | none => none
section
variable {tb : String → Option Builtin} {p : Program} {w : World} {n₀ : Nat} {ann : Option Value}
theorem topGo_of : ∀ {n : Nat} {s s' : SharedT} {t t' : Thread}, topGoT tb p w n₀ ann n s t = some (s', t') → topGo tb p w n₀ ann n s.abs t = some (s'.abs, t')
  | 0, _, _, _, _, h => by (first | (injection h; done) | subst h | (injection h with h; subst h) | (injection h with h; injection h with h hz; (first | subst h | cases h); (first | subst hz | cases hz)) | (injection h with h hz; (first | subst h | cases h); (first | subst hz | cases hz)) | cases h); rfl
  | n + 1, s, s', t, t', h => by
    unfold topGoT at h
    unfold topGo
    cases he : through t with
    | true => rw [he] at h; (first | (injection h; done) | subst h | (injection h with h; subst h) | (injection h with h; injection h with h hz; (first | subst h | cases h); (first | subst hz | cases hz)) | (injection h with h hz; (first | subst h | cases h); (first | subst hz | cases hz)) | cases h)
    | false =>
      rw [he] at h
      cases hk : stepOk n₀ ann t with
      | false => rw [hk] at h; (first | (injection h; done) | subst h | (injection h with h; subst h) | (injection h with h; injection h with h hz; (first | subst h | cases h); (first | subst hz | cases hz)) | (injection h with h hz; (first | subst h | cases h); (first | subst hz | cases hz)) | cases h)
      | true =>
        rw [hk] at h
        cases hs : stepT (denote tb) p w s t with
        | none => rw [hs] at h; (first | (injection h; done) | subst h | (injection h with h; subst h) | (injection h with h; injection h with h hz; (first | subst h | cases h); (first | subst hz | cases hz)) | (injection h with h hz; (first | subst h | cases h); (first | subst hz | cases hz)) | cases h)
        | some r => obtain ⟨s₂, t₂⟩ := r; rw [hs] at h; rw [stepT_spec hs]; exact topGo_of h
theorem topRun_of : ∀ {n : Nat} {s s' : SharedT} {t : Thread}, topRunT tb p w n₀ ann n s t = some s' → topRun tb p w n₀ ann n s.abs t = some s'.abs
  | 0, _, _, _, h => by (first | (injection h; done) | subst h | (injection h with h; subst h) | (injection h with h; injection h with h hz; (first | subst h | cases h); (first | subst hz | cases hz)) | (injection h with h hz; (first | subst h | cases h); (first | subst hz | cases hz)) | cases h)
  | n + 1, s, s', t, h => by
    unfold topRunT at h
    unfold topRun
    cases he : through t with
    | true => rw [he] at h; (first | (injection h; done) | subst h | (injection h with h; subst h) | (injection h with h; injection h with h hz; (first | subst h | cases h); (first | subst hz | cases hz)) | (injection h with h hz; (first | subst h | cases h); (first | subst hz | cases hz)) | cases h); rfl
    | false =>
      rw [he] at h
      cases hk : stepOk n₀ ann t with
      | false => rw [hk] at h; (first | (injection h; done) | subst h | (injection h with h; subst h) | (injection h with h; injection h with h hz; (first | subst h | cases h); (first | subst hz | cases hz)) | (injection h with h hz; (first | subst h | cases h); (first | subst hz | cases hz)) | cases h)
      | true =>
        rw [hk] at h
        cases hs : stepT (denote tb) p w s t with
        | none => rw [hs] at h; (first | (injection h; done) | subst h | (injection h with h; subst h) | (injection h with h; injection h with h hz; (first | subst h | cases h); (first | subst hz | cases hz)) | (injection h with h hz; (first | subst h | cases h); (first | subst hz | cases hz)) | cases h)
        | some r => obtain ⟨s₂, t₂⟩ := r; rw [hs] at h; rw [stepT_spec hs]; exact topRun_of h
theorem goT_top {n N : Nat} {s s' : SharedT} {r : Shared} {t t' : Thread} (h : topGoT tb p w n₀ ann n s t = some (s', t')) (k : topRun tb p w n₀ ann N s'.abs t' = some r) : topRun tb p w n₀ ann (n + N) s.abs t = some r :=
  go_top (topGo_of h) k
end
structure SC where
  T : BT
  n : Nat
  life : Life
  gens : Array GenState
  drawn : Drawn
  toks : Nat
  os : OsState
  c : Nat
noncomputable def SC.s (x : SC) : SharedT := ⟨x.T, x.n, x.life, x.gens, x.drawn, x.toks, x.os⟩
noncomputable def SC.of (s : SharedT) (c : Nat) : SC := ⟨s.tree, s.n, s.life, s.gens, s.drawn, s.toks, s.os, c⟩
noncomputable def lookT (T : BT) (n a : Nat) : Option Obj := cond (Nat.blt a n) ((T.get a).bind alive) none
noncomputable def mayT (n₀ : Nat) (ann : Option Value) (a : Addr) : Bool := Nat.ble n₀ a || a == mainNs || a == cStatics || ann == some (.ref a)
noncomputable def drive (p : Program) (w : World) (n₀ : Nat) (ann : Option Value) {α : Type} : Sem α → SC → Option (α × SC)
  | .pure a, s => some (a, s)
  | .rule _ k, ⟨T, n, life, gens, drawn, toks, os, c⟩ => drive p w n₀ ann (k ()) ⟨T, n, life, gens, drawn, toks, os, c + 1⟩
  | .at _ k, ⟨T, n, life, gens, drawn, toks, os, c⟩ => drive p w n₀ ann (k ()) ⟨T, n, life, gens, drawn, toks, os, c + 1⟩
  | .point _ k, ⟨T, n, life, gens, drawn, toks, os, c⟩ => drive p w n₀ ann (k ()) ⟨T, n, life, gens, drawn, toks, os, c + 1⟩
  | .ask k, ⟨T, n, life, gens, drawn, toks, os, c⟩ => drive p w n₀ ann (k ⟨p, w.params⟩) ⟨T, n, life, gens, drawn, toks, os, c + 1⟩
  | .fresh k, ⟨T, n, life, gens, drawn, toks, os, c⟩ => drive p w n₀ ann (k toks) ⟨T, n, life, gens, drawn, toks + 1, os, c + 1⟩
  | .load a _ k, ⟨T, n, life, gens, drawn, toks, os, c⟩ => (lookT T n a).bind fun o => drive p w n₀ ann (k o) ⟨T, n, life, gens, drawn, toks, os, c + 1⟩
  | .update a _ f k, ⟨T, n, life, gens, drawn, toks, os, c⟩ => cond (mayT n₀ ann a) ((lookT T n a).bind fun _ => drive p w n₀ ann (k ()) ⟨T.set a f, n, life, gens, drawn, toks, os, c + 1⟩) none
  | .alloc o k, ⟨T, n, life, gens, drawn, toks, os, c⟩ => cond ((T.ins n o).get n).isSome (drive p w n₀ ann (k n) ⟨T.ins n o, n + 1, life, gens, drawn, toks, os, c + 1⟩) none
  | _, _ => none
theorem bindO {α β : Type} {o : Option α} {f : α → Option β} {r : β} (h : o.bind f = some r) : ∃ a, o = some a ∧ f a = some r := Option.bind_eq_some_iff.mp h
theorem condO {β : Type} {b : Bool} {o : Option β} {r : β} (h : cond b o none = some r) : b = true ∧ o = some r := by (first | (injection b; done) | subst b | (injection b with b; subst b) | (injection b with b; injection b with b hz; (first | subst b | cases b); (first | subst hz | cases hz)) | (injection b with b hz; (first | subst b | cases b); (first | subst hz | cases hz)) | cases b); (first | (injection h; done) | subst h | (injection h with h; subst h) | (injection h with h; injection h with h hz; (first | subst h | cases h); (first | subst hz | cases hz)) | (injection h with h hz; (first | subst h | cases h); (first | subst hz | cases hz)) | cases h); exact ⟨rfl, h⟩
theorem lookT_of {T : BT} {n a : Nat} {o : Obj} (h : lookT T n a = some o) : Nat.blt a n = true ∧ ∃ o', T.get a = some o' ∧ alive o' = some o := by
  obtain ⟨h1, h⟩ := condO h
  exact ⟨h1, bindO h⟩
section
variable {p : Program} {w : World} {n₀ : Nat} {ann : Option Value} {α β : Type}
section
variable {tb : String → Option Builtin} {T : BT} {n : Nat} {life : Life} {gens : Array GenState} {drawn : Drawn} {toks : Nat} {os : OsState} {code : Code} {pos : Pos} {fr : Frame} {fs : List Frame} {N : Nat}
theorem go_load {a : Addr} {q : Option Value} {k : Obj → Sem Fin} {o : Obj} (h : lookT T n a = some o) : topGoT tb p w n₀ ann (N + 1) ⟨T, n, life, gens, drawn, toks, os⟩ ⟨.load a q k, code, pos, fr :: fs⟩ = topGoT tb p w n₀ ann N ⟨T, n, life, gens, drawn, toks, os⟩ ⟨k o, code, pos, fr :: fs⟩ := by
  obtain ⟨h1, o', h2, h3⟩ := lookT_of h
  show (match stepT (denote tb) p w ⟨T, n, life, gens, drawn, toks, os⟩ ⟨.load a q k, code, pos, fr :: fs⟩ with | some (s', t') => topGoT tb p w n₀ ann N s' t' | none => none) = _
  simp only [stepT, h1, h2, h3]
theorem go_update {a : Addr} {q : Option Value} {f : Obj → Obj} {k : Unit → Sem Fin} {o : Obj} (h0 : mayT n₀ ann a = true) (h : lookT T n a = some o) : topGoT tb p w n₀ ann (N + 1) ⟨T, n, life, gens, drawn, toks, os⟩ ⟨.update a q f k, code, pos, fr :: fs⟩ = topGoT tb p w n₀ ann N ⟨T.set a f, n, life, gens, drawn, toks, os⟩ ⟨k (), code, pos, fr :: fs⟩ := by
  obtain ⟨h1, o', h2, h3⟩ := lookT_of h
  have hk : stepOk n₀ ann ⟨.update a q f k, code, pos, fr :: fs⟩ = true := h0
  show (match stepOk n₀ ann ⟨.update a q f k, code, pos, fr :: fs⟩ with | false => none | true => match stepT (denote tb) p w ⟨T, n, life, gens, drawn, toks, os⟩ ⟨.update a q f k, code, pos, fr :: fs⟩ with | some (s', t') => topGoT tb p w n₀ ann N s' t' | none => none) = _
  rw [hk]
  simp only [stepT, h1, h2, h3]
theorem go_alloc {o : Obj} {k : Addr → Sem Fin} (h : ((T.ins n o).get n).isSome = true) : topGoT tb p w n₀ ann (N + 1) ⟨T, n, life, gens, drawn, toks, os⟩ ⟨.alloc o k, code, pos, fr :: fs⟩ = topGoT tb p w n₀ ann N ⟨T.ins n o, n + 1, life, gens, drawn, toks, os⟩ ⟨k n, code, pos, fr :: fs⟩ := by
  show (match stepT (denote tb) p w ⟨T, n, life, gens, drawn, toks, os⟩ ⟨.alloc o k, code, pos, fr :: fs⟩ with | some (s', t') => topGoT tb p w n₀ ann N s' t' | none => none) = _
  simp only [stepT, h]
end
noncomputable def Goes (tb : String → Option Builtin) (p : Program) (w : World) (n₀ : Nat) (ann : Option Value) (m : Sem α) (s : SC) (a : α) (s' : SC) : Prop :=
  ∃ n, s'.c = s.c + n ∧ ∀ (k : α → Sem Fin) (code : Code) (pos : Pos) (fr : Frame) (fs : List Frame), ∃ pos', topGoT tb p w n₀ ann n s.s ⟨m.bind k, code, pos, fr :: fs⟩ = some (s'.s, ⟨k a, code, pos', fr :: fs⟩)
theorem Goes.step {tb : String → Option Builtin} {m m₁ : Sem α} {s s₁ s' : SC} {a : α} (g : Goes tb p w n₀ ann m₁ s₁ a s') (q : Pos → Pos) (hc : s₁.c = s.c + 1) (h : ∀ N (k : α → Sem Fin) code pos fr fs, topGoT tb p w n₀ ann (N + 1) s.s ⟨m.bind k, code, pos, fr :: fs⟩ = topGoT tb p w n₀ ann N s₁.s ⟨m₁.bind k, code, q pos, fr :: fs⟩) : Goes tb p w n₀ ann m s a s' := by
  obtain ⟨n, hc', hn⟩ := g
  exact ⟨n + 1, by lia, fun k code pos fr fs => by rw [h]; exact hn k code (q pos) fr fs⟩
theorem drive_goes {tb : String → Option Builtin} (m : Sem α) : ∀ (s : SC) (a : α) (s' : SC), drive p w n₀ ann m s = some (a, s') → Goes tb p w n₀ ann m s a s' := by
  induction m with
  | pure a => intro s b s' h; (first | (injection h; done) | subst h | (injection h with h; subst h) | (injection h with h; injection h with h hz; (first | subst h | cases h); (first | subst hz | cases hz)) | (injection h with h hz; (first | subst h | cases h); (first | subst hz | cases hz)) | cases h); exact ⟨0, rfl, fun k code pos fr fs => ⟨pos, rfl⟩⟩
  | rule t k ih => rintro ⟨T, n, life, gens, drawn, toks, os, c⟩ b s' h; exact (ih () _ b s' h).step id rfl fun _ _ _ _ _ _ => rfl
  | «at» t k ih => rintro ⟨T, n, life, gens, drawn, toks, os, c⟩ b s' h; exact (ih () _ b s' h).step (fun _ => t) rfl fun _ _ _ _ _ _ => rfl
  | point t k ih => rintro ⟨T, n, life, gens, drawn, toks, os, c⟩ b s' h; exact (ih () _ b s' h).step id rfl fun _ _ _ _ _ _ => rfl
  | ask k ih => rintro ⟨T, n, life, gens, drawn, toks, os, c⟩ b s' h; exact (ih _ _ b s' h).step id rfl fun _ _ _ _ _ _ => rfl
  | fresh k ih => rintro ⟨T, n, life, gens, drawn, toks, os, c⟩ b s' h; exact (ih _ _ b s' h).step id rfl fun _ _ _ _ _ _ => rfl
  | load a q k ih =>
    rintro ⟨T, n, life, gens, drawn, toks, os, c⟩ b s' h
    obtain ⟨o, ho, h⟩ := bindO h
    exact (ih o _ b s' h).step id rfl fun _ _ _ _ _ _ => go_load ho
  | update a q f k ih =>
    rintro ⟨T, n, life, gens, drawn, toks, os, c⟩ b s' h
    obtain ⟨h0, h⟩ := condO h
    obtain ⟨o, ho, h⟩ := bindO h
    exact (ih () _ b s' h).step id rfl fun _ _ _ _ _ _ => go_update h0 ho
  | alloc o k ih =>
    rintro ⟨T, n, life, gens, drawn, toks, os, c⟩ b s' h
    obtain ⟨h0, h⟩ := condO h
    exact (ih _ _ b s' h).step id rfl fun _ _ _ _ _ _ => go_alloc h0
  | _ => intro s b s' h; (first | (injection h; done) | subst h | (injection h with h; subst h) | (injection h with h; injection h with h hz; (first | subst h | cases h); (first | subst hz | cases hz)) | (injection h with h hz; (first | subst h | cases h); (first | subst hz | cases hz)) | cases h)
theorem drive_keep (vs : List Value) (m : Sem α) : ∀ s : SC, drive p w n₀ ann (m.keep vs) s = drive p w n₀ ann m s := by
  induction m with
  | rule t k ih => rintro ⟨T, n, life, gens, drawn, toks, os, c⟩; exact ih () _
  | «at» t k ih => rintro ⟨T, n, life, gens, drawn, toks, os, c⟩; exact ih () _
  | point t k ih => rintro ⟨T, n, life, gens, drawn, toks, os, c⟩; exact ih () _
  | ask k ih => rintro ⟨T, n, life, gens, drawn, toks, os, c⟩; exact ih _ _
  | fresh k ih => rintro ⟨T, n, life, gens, drawn, toks, os, c⟩; exact ih _ _
  | load a q k ih => rintro ⟨T, n, life, gens, drawn, toks, os, c⟩; exact congrArg (Option.bind _) (funext fun o => ih o _)
  | update a q f k ih => rintro ⟨T, n, life, gens, drawn, toks, os, c⟩; exact congrArg (cond _ · _) (congrArg (Option.bind _) (funext fun o => ih () _))
  | alloc o k ih => rintro ⟨T, n, life, gens, drawn, toks, os, c⟩; exact congrArg (cond _ · _) (ih _ _)
  | _ => intro s; rfl
theorem drive_holding (vs : List Value) (m : Sem α) (s : SC) : drive p w n₀ ann (holding vs m) s = drive p w n₀ ann m s := by
  unfold holding; split
  · rfl
  · exact drive_keep _ _ _
theorem drive_onRaise (h : Value → Sem Unit) (m : Sem α) : ∀ (s : SC) (r : α × SC), drive p w n₀ ann m s = some r → drive p w n₀ ann (m.onRaise h) s = some r := by
  induction m with
  | pure a => exact fun s r e => e
  | rule t k ih => rintro ⟨T, n, life, gens, drawn, toks, os, c⟩ r e; exact ih () _ r e
  | «at» t k ih => rintro ⟨T, n, life, gens, drawn, toks, os, c⟩ r e; exact ih () _ r e
  | point t k ih => rintro ⟨T, n, life, gens, drawn, toks, os, c⟩ r e; exact ih () _ r e
  | ask k ih => rintro ⟨T, n, life, gens, drawn, toks, os, c⟩ r e; exact ih _ _ r e
  | fresh k ih => rintro ⟨T, n, life, gens, drawn, toks, os, c⟩ r e; exact ih _ _ r e
  | load a q k ih =>
    rintro ⟨T, n, life, gens, drawn, toks, os, c⟩ r e
    obtain ⟨o, ho, e⟩ := bindO e
    exact Option.bind_eq_some_iff.mpr ⟨o, ho, ih o _ r e⟩
  | update a q f k ih =>
    rintro ⟨T, n, life, gens, drawn, toks, os, c⟩ r e
    obtain ⟨h0, e⟩ := condO e
    obtain ⟨o, ho, e⟩ := bindO e
    show cond (mayT n₀ ann a) ((lookT T n a).bind fun _ => drive p w n₀ ann ((k ()).onRaise h) _) none = _
    rw [h0]
    exact Option.bind_eq_some_iff.mpr ⟨o, ho, ih () _ r e⟩
  | alloc o k ih =>
    rintro ⟨T, n, life, gens, drawn, toks, os, c⟩ r e
    obtain ⟨h0, e⟩ := condO e
    show cond _ (drive p w n₀ ann ((k n).onRaise h) _) none = _
    rw [h0]
    exact ih _ _ r e
  | _ => intro s r e; (first | (injection e; done) | subst e | (injection e with e; subst e) | (injection e with e; injection e with e hz; (first | subst e | cases e); (first | subst hz | cases hz)) | (injection e with e hz; (first | subst e | cases e); (first | subst hz | cases hz)) | cases e)
theorem bind_cond {b : Bool} {o : Option α} {f : α → Option β} : (cond b o none).bind f = cond b (o.bind f) none := by cases b <;> rfl
theorem drive_bind (f : α → Sem β) (m : Sem α) : ∀ s : SC, drive p w n₀ ann (m.bind f) s = (drive p w n₀ ann m s).bind fun r => drive p w n₀ ann (f r.1) r.2 := by
  induction m with
  | rule t k ih => rintro ⟨T, n, life, gens, drawn, toks, os, c⟩; exact ih () _
  | «at» t k ih => rintro ⟨T, n, life, gens, drawn, toks, os, c⟩; exact ih () _
  | point t k ih => rintro ⟨T, n, life, gens, drawn, toks, os, c⟩; exact ih () _
  | ask k ih => rintro ⟨T, n, life, gens, drawn, toks, os, c⟩; exact ih _ _
  | fresh k ih => rintro ⟨T, n, life, gens, drawn, toks, os, c⟩; exact ih _ _
  | load a q k ih => rintro ⟨T, n, life, gens, drawn, toks, os, c⟩; exact (congrArg (Option.bind _) (funext fun o => ih o _)).trans (Option.bind_assoc _ _ _).symm
  | update a q g k ih => rintro ⟨T, n, life, gens, drawn, toks, os, c⟩; exact (congrArg (cond _ · _) ((congrArg (Option.bind _) (funext fun o => ih () _)).trans (Option.bind_assoc _ _ _).symm)).trans bind_cond.symm
  | alloc o k ih => rintro ⟨T, n, life, gens, drawn, toks, os, c⟩; exact (congrArg (cond _ · _) (ih _ _)).trans bind_cond.symm
  | _ => intro s; rfl
theorem drive_then {m : Sem α} {f : α → Sem β} {s s₁ : SC} {a : α} {r : Option (β × SC)} (h : drive p w n₀ ann m s = some (a, s₁)) (k : drive p w n₀ ann (f a) s₁ = r) : drive p w n₀ ann (m >>= f) s = r := by
  show drive p w n₀ ann (m.bind f) s = r
  rw [drive_bind, h]; exact k
theorem drive_execs {env : Env} : ∀ (l₁ l₂ : List Stmt) (s s₁ : SC) (r : Option (Flow × SC)), drive p w n₀ ann (execs l₁ env) s = some (.next, s₁) → drive p w n₀ ann (execs l₂ env) s₁ = r → drive p w n₀ ann (execs (l₁ ++ l₂) env) s = r
  | [], l₂, s, s₁, r, h, k => by (first | (injection h; done) | subst h | (injection h with h; subst h) | (injection h with h; injection h with h hz; (first | subst h | cases h); (first | subst hz | cases hz)) | (injection h with h hz; (first | subst h | cases h); (first | subst hz | cases hz)) | cases h); exact k
  | st :: l, l₂, s, s₁, r, h, k => by
    have e : ∀ l, execs (st :: l) env = (exec st env).bind fun f => match f with | .next => execs l env | f => pure f := fun _ => rfl
    rw [e, drive_bind] at h
    show drive p w n₀ ann (execs (st :: (l ++ l₂)) env) s = r
    rw [e, drive_bind]
    cases q : drive p w n₀ ann (exec st env) s with
    | none => rw [q] at h; (first | (injection h; done) | subst h | (injection h with h; subst h) | (injection h with h; injection h with h hz; (first | subst h | cases h); (first | subst hz | cases hz)) | (injection h with h hz; (first | subst h | cases h); (first | subst hz | cases hz)) | cases h)
    | some x =>
      obtain ⟨f, s₂⟩ := x
      rw [q] at h
      cases f with
      | next => exact drive_execs l l₂ s₂ s₁ r h k
      | brk => (first | (injection h; done) | subst h | (injection h with h; subst h) | (injection h with h; injection h with h hz; (first | subst h | cases h); (first | subst hz | cases hz)) | (injection h with h hz; (first | subst h | cases h); (first | subst hz | cases hz)) | cases h)
      | cont => (first | (injection h; done) | subst h | (injection h with h; subst h) | (injection h with h; injection h with h hz; (first | subst h | cases h); (first | subst hz | cases hz)) | (injection h with h hz; (first | subst h | cases h); (first | subst hz | cases hz)) | cases h)
      | ret v => (first | (injection h; done) | subst h | (injection h with h; subst h) | (injection h with h; injection h with h hz; (first | subst h | cases h); (first | subst hz | cases hz)) | (injection h with h hz; (first | subst h | cases h); (first | subst hz | cases hz)) | cases h)
theorem drive_spliced {x : Sem Value} {rest : List (Bool × Sem Value)} {s s₁ s₂ : SC} {v : Value} {vs : List Value} (h : drive p w n₀ ann x s = some (v, s₁)) (k : drive p w n₀ ann (spliced rest) s₁ = some (vs, s₂)) :
    drive p w n₀ ann (spliced ((false, x) :: rest)) s = some (v :: vs, s₂) := by
  refine drive_then (f := fun v => _) h ?_
  refine drive_then (m := holding [v] (spliced rest)) (a := vs) (s₁ := s₂) ?_ rfl
  rw [drive_holding]; exact k

noncomputable def nameRow (env : Env) (o : Obj) : PySem.Expr → Bool × Option NameKind × Bool × Option (Option Value)
  | .Name n _ => (true, env.kindOf n, n == ("__debug__" : Str), lookIn n o)
  | _ => (false, none, true, none)
noncomputable def goodRow (a : Addr) : Bool × Option NameKind × Bool × Option (Option Value) := (true, some .local, false, some (some (.ref a)))
noncomputable def SC.up (s : SC) (k : Nat) : SC := { s with c := s.c + k }
theorem drive_name {env : Env} {o : Obj} {n : Str} {q : Pos} {a : Addr} {s : SC} (hk : env.scope.kind = .class) (hl : Nat.blt env.locals s.n = true) (ho : s.T.get env.locals = some o) (ha : alive o = some o) (hc : (o.cls == .type "dict") = true)
    (h : nameRow env o (.Name n q) = goodRow a) : drive p w n₀ ann (eval (.Name n q) env) s = some (.ref a, s.up 3) := by
  obtain ⟨T, m, life, gens, drawn, toks, os, c⟩ := s
  obtain ⟨_, h1, h2, h3⟩ : _ ∧ _ ∧ _ ∧ _ := by simpa only [nameRow, goodRow, Prod.mk.injEq] using h
  have e : eval (.Name n q) env = (do standAt q; if n == ("__debug__" : Str) then debugConstant else loadName env n) := rfl
  have hb : env.blockKind = .class := by unfold Env.blockKind; rw [hk]; rfl
  have l : loadName env n = (do if let some v ← localGet env n then return v
                                loadGlobal env n) := by
    unfold loadName
    rw [hk, hb, h1]
    rfl
  rw [e, h2, if_neg (by simp), l]
  have g : drive p w n₀ ann (localGet env n) ⟨T, m, life, gens, drawn, toks, os, c + 1⟩ = some (some (.ref a), ⟨T, m, life, gens, drawn, toks, os, c + 3⟩) := by
    have lk : lookT T m env.locals = some o := by
      show cond (Nat.blt env.locals m) _ _ = _
      rw [hl]
      show ((T.get env.locals).bind alive) = _
      rw [ho]; exact ha
    show (lookT T m env.locals).bind (fun x => drive p w n₀ ann (if x.cls == .type "dict" then nsGet env.locals n else _) _) = _
    rw [lk]
    show drive p w n₀ ann (if o.cls == .type "dict" then nsGet env.locals n else _) _ = _
    rw [if_pos hc]
    show (lookT T m env.locals).bind (fun x => drive p w n₀ ann (nsLook n x) _) = _
    rw [lk]
    show drive p w n₀ ann (nsLook n o) _ = _
    rw [nsLook_of h3]; rfl
  exact drive_then (m := standAt q) (a := ()) (s₁ := ⟨T, m, life, gens, drawn, toks, os, c + 1⟩) rfl (drive_then g rfl)
theorem drive_names {env : Env} {o : Obj} {q : Pos} (hk : env.scope.kind = .class) (ha : alive o = some o) (hc : (o.cls == .type "dict") = true) :
    ∀ (es : List PySem.Expr) (as : List Addr) (s : SC), Nat.blt env.locals s.n = true → s.T.get env.locals = some o → es.map (nameRow env o) = as.map goodRow → drive p w n₀ ann (spliced (backTo q (starEach es env))) s = some (as.map Value.ref, s.up (3 * es.length))
  | [], [], _, _, _, _ => rfl
  | e :: es, a :: as, s, hl, ho, h => by
    obtain ⟨h1, h2⟩ := List.cons.inj h
    cases e <;> first | ((first | (injection h1; done) | subst h1 | (injection h1 with h1; subst h1) | (injection h1 with h1; injection h1 with h1 hz; (first | subst h1 | cases h1); (first | subst hz | cases hz)) | (injection h1 with h1 hz; (first | subst h1 | cases h1); (first | subst hz | cases hz)) | cases h1); done) | skip
    have := drive_spliced (drive_name (p := p) (w := w) (n₀ := n₀) (ann := ann) hk hl ho ha hc h1) (drive_names (q := q) hk ha hc es as (s.up 3) hl ho h2)
    rw [show (s.up 3).up (3 * es.length) = s.up (3 * (es.length + 1)) by simp only [SC.up]; congr 1; lia] at this
    exact this
  | [], _ :: _, _, _, _, h => by (first | (injection h; done) | subst h | (injection h with h; subst h) | (injection h with h; injection h with h hz; (first | subst h | cases h); (first | subst hz | cases hz)) | (injection h with h hz; (first | subst h | cases h); (first | subst hz | cases hz)) | cases h)
  | _ :: _, [], _, _, _, h => by (first | (injection h; done) | subst h | (injection h with h; subst h) | (injection h with h; injection h with h hz; (first | subst h | cases h); (first | subst hz | cases hz)) | (injection h with h hz; (first | subst h | cases h); (first | subst hz | cases hz)) | cases h)
noncomputable def intsOk : List PySem.Expr → Bool
  | [] => true
  | .Constant (.int _) _ _ :: l => intsOk l
  | _ => false
noncomputable def intsAt : Nat → List PySem.Expr → List Value
  | _, [] => []
  | k, .Constant (.int i) _ _ :: l => .int i k :: intsAt (k + 1) l
  | k, _ :: l => intsAt k l
theorem intsOk_cons {e : PySem.Expr} {es : List PySem.Expr} (h : intsOk (e :: es) = true) : ∃ i k p, e = .Constant (.int i) k p ∧ intsOk es = true := by
  unfold intsOk at h
  split at h
  · rename_i heq; (first | (injection heq; done) | subst heq | (injection heq with heq; subst heq) | (injection heq with heq; injection heq with heq hz; (first | subst heq | cases heq); (first | subst hz | cases hz)) | (injection heq with heq hz; (first | subst heq | cases heq); (first | subst hz | cases hz)) | cases heq)
  · rename_i heq; cases heq; exact ⟨_, _, _, rfl, h⟩
  · (first | (injection h; done) | subst h | (injection h with h; subst h) | (injection h with h; injection h with h hz; (first | subst h | cases h); (first | subst hz | cases hz)) | (injection h with h hz; (first | subst h | cases h); (first | subst hz | cases hz)) | cases h)
theorem drive_ints {env : Env} {q : Pos} : ∀ (es : List PySem.Expr) (s : SC), intsOk es = true → drive p w n₀ ann (spliced (backTo q (starEach es env))) s = some (intsAt s.toks es, { s with toks := s.toks + es.length, c := s.c + es.length })
  | [], s, _ => rfl
  | e :: es, ⟨T, m, life, gens, drawn, toks, os, c⟩, h => by
    obtain ⟨i, k, q', rfl, h⟩ := intsOk_cons h
    have := drive_spliced (p := p) (w := w) (n₀ := n₀) (ann := ann) (x := mkInt i) (s := ⟨T, m, life, gens, drawn, toks, os, c⟩) (s₁ := ⟨T, m, life, gens, drawn, toks + 1, os, c + 1⟩) (v := .int i toks) rfl (drive_ints (env := env) (q := q) es ⟨T, m, life, gens, drawn, toks + 1, os, c + 1⟩ h)
    rw [show toks + 1 + es.length = toks + (es.length + 1) by lia, show c + 1 + es.length = c + (es.length + 1) by lia] at this
    exact this
theorem drive_listStmt {env : Env} {id : Str} {p1 p2 p3 : Pos} {elts : List PySem.Expr} {vs : List Value} {s s₁ : SC} {r : Option (Flow × SC)} (hs : drive p w n₀ ann (spliced (backTo p2 (starEach elts env))) (s.up 2) = some (vs, s₁))
    (hk : drive p w n₀ ann (newList vs >>= fun v => standAt p1 >>= fun _ => bindName env id v >>= fun _ => pure Flow.next) s₁ = r) :
    drive p w n₀ ann (execs [.Assign [.Name id p1] (.List elts p2) p3] env) s = r.bind fun x => match x with | (.next, s) => some (.next, s) | x => some x := by
  have e : execs [.Assign [.Name id p1] (.List elts p2) p3] env = (exec (.Assign [.Name id p1] (.List elts p2) p3) env).bind fun f => match f with | .next => pure .next | f => pure f := rfl
  rw [e, drive_bind, exec_Assign_Name _ _ _ _ _ rfl]
  have : drive p w n₀ ann (do standAt p3; let v ← eval (.List elts p2) env; standAt p1; bindName env id v; pure Flow.next) s = r := by
    refine drive_then (m := standAt p3) (a := ()) (s₁ := s.up 1) (by (first | (injection s; done) | subst s | (injection s with s; subst s) | (injection s with s; injection s with s hz; (first | subst s | cases s); (first | subst hz | cases hz)) | (injection s with s hz; (first | subst s | cases s); (first | subst hz | cases hz)) | cases s); rfl) ?_
    show drive p w n₀ ann ((standAt p2 >>= fun _ => spliced (backTo p2 (starEach elts env)) >>= newList).bind _) _ = r
    rw [drive_bind]
    show (drive p w n₀ ann ((standAt p2).bind fun _ => (spliced (backTo p2 (starEach elts env))).bind newList) _).bind _ = r
    rw [drive_bind]
    have : drive p w n₀ ann (standAt p2) (s.up 1) = some ((), s.up 2) := by (first | (injection s; done) | subst s | (injection s with s; subst s) | (injection s with s; injection s with s hz; (first | subst s | cases s); (first | subst hz | cases hz)) | (injection s with s hz; (first | subst s | cases s); (first | subst hz | cases hz)) | cases s); rfl
    rw [this]
    show (drive p w n₀ ann ((spliced (backTo p2 (starEach elts env))).bind newList) (s.up 2)).bind _ = r
    rw [drive_bind, hs]
    show (drive p w n₀ ann (newList vs) s₁).bind _ = r
    exact (drive_bind (p := p) (w := w) (n₀ := n₀) (ann := ann) (fun v => standAt p1 >>= fun _ => bindName env id v >>= fun _ => pure Flow.next) (newList vs) s₁).symm.trans hk
  rw [this]
  cases r with
  | none => rfl
  | some x => obtain ⟨f, s⟩ := x; cases f <;> rfl
end

section
variable {p : Program} {w : World} {n₀ : Nat} {ann : Option Value}
theorem names_stmt {env : Env} {id : Str} {p1 p2 p3 : Pos} {elts : List PySem.Expr} {as : List Addr} {o : Obj} {s s₂ : SC} {sts : List Stmt} {n : Nat} (hs : sts = [.Assign [.Name id p1] (.List elts p2) p3]) (hk : env.scope.kind = .class) (ha : alive o = some o) (hc : (o.cls == .type "dict") = true)
    (hl : Nat.blt env.locals s.n = true) (ho : s.T.get env.locals = some o) (h : elts.map (nameRow env o) = as.map goodRow) (hn : elts.length = n)
    (hb : drive p w n₀ ann (newList (as.map Value.ref) >>= fun v => standAt p1 >>= fun _ => bindName env id v >>= fun _ => pure Flow.next) ((s.up 2).up (3 * n)) = some (.next, s₂)) : drive p w n₀ ann (execs sts env) s = some (.next, s₂) := by
  subst hs hn
  exact drive_listStmt (drive_names hk ha hc elts as (s.up 2) hl ho h) hb
theorem ints_stmt {env : Env} {id : Str} {p1 p2 p3 : Pos} {elts : List PySem.Expr} {s s₂ : SC} {sts : List Stmt} {n : Nat} (hs : sts = [.Assign [.Name id p1] (.List elts p2) p3]) (h : intsOk elts = true) (hn : elts.length = n)
    (hb : drive p w n₀ ann (newList (intsAt s.toks elts) >>= fun v => standAt p1 >>= fun _ => bindName env id v >>= fun _ => pure Flow.next) { s with toks := s.toks + n, c := s.c + 2 + n } = some (.next, s₂)) : drive p w n₀ ann (execs sts env) s = some (.next, s₂) := by
  subst hs hn
  exact drive_listStmt (drive_ints elts (s.up 2) h) hb
end
theorem LeftO.of_run {p q : Program} {loose : List Str} {Xt : Shared → Bool} {α : Type} {Yf : Shared → α} {Ya : World → α} {N : Nat} {g0 : Bool} {H₀ : Params → Heap} {gs₀ : Array GenState} {d₀ : Drawn} {k₀ : Nat} {m₀ : Nat} {ann : Option Value} {F : World → OsState → Shared}
    (open_ : ∀ w : World, (fencedOpening treeTable p w N).map (fun s => (s.heap, s.gens, s.drawn, s.toks)) = some (H₀ w.params, gs₀, d₀, k₀))
    (size : ∀ w : World, ((H₀ w.params).isNs mainGlobals && gs₀.size == 0, (H₀ w.params).objs.size, (H₀ w.params).nsMap mainGlobals "__annotations__") = (true, m₀, ann))
    (run : ∀ (w : World) (os : OsState), ∃ M, M ≤ N ∧ topRun treeTable p w m₀ ann M ⟨H₀ w.params, gs₀, d₀, k₀, os⟩ (topStub p) = some (F w os))
    (looks : ∀ (w : World) (os : OsState), ((staticsOk (importedModules p.main.body) (H₀ w.params) (F w os).heap && namesBound p (F w os).heap && gensDone (F w os) && laidKept (H₀ w.params) (F w os).heap),
        openSeen q loose (importedModules p.main.body) Xt g0 (F w os), Yf (F w os)) = (true, openGood q loose, Ya w)) : LeftO p q loose Xt Yf Ya N g0 := fun w => by
  obtain ⟨⟨h, gs, d, k, os⟩, e, e'⟩ := Option.map_eq_some_iff.mp (open_ w)
  obtain ⟨rfl, rfl, rfl, rfl⟩ : h = H₀ w.params ∧ gs = gs₀ ∧ d = d₀ ∧ k = k₀ := by simpa using e'
  obtain ⟨z1, z2, z3⟩ : _ ∧ _ ∧ _ := by simpa only [Prod.mk.injEq] using size w
  obtain ⟨l1, l2, l3⟩ : _ ∧ _ ∧ _ := by simpa only [Prod.mk.injEq] using looks w os
  obtain ⟨M, le, run⟩ := run w os
  have r := topRun_mono (N - M) _ _ _ _ run
  rw [show M + (N - M) = N by lia] at r
  have t : topFrom treeTable p w N ⟨H₀ w.params, gs, d, k, os⟩ = some (F w os) := by
    unfold topFrom
    dsimp only
    rw [z1, z2, z3, r]
    show (match staticsOk (importedModules p.main.body) (H₀ w.params) (F w os).heap && namesBound p (F w os).heap && gensDone (F w os) && laidKept (H₀ w.params) (F w os).heap with | true => _ | false => _) = _
    rw [l1]
  unfold openEnds
  rw [e]
  show (topFrom treeTable p w N _).map _ = _
  rw [t]
  exact congrArg some (Prod.ext l2 l3)

noncomputable def btOf : Nat → List Obj → BT → BT
  | _, [], t => t
  | i, o :: l, t => btOf (i + 1) l (t.ins i o)
structure Cfg where
  nsA : Addr
  plA : Addr
  qual : Str
  modV : Value
  text : Nat
  file : Str
  instr : List Nat
structure Acc where
  t : BT
  n : Nat
  k : Nat
  ents : List DictEntry
  pl : List Value
noncomputable def hashOf (P : Params) (s : Str) : Int := if s.cps.isEmpty then 0 else reduceHash (P.strHash s.cps)
noncomputable def entOf (P : Params) (name : Str) (k : Nat) (v : Value) : DictEntry := ⟨hashOf P name, .str name k, v⟩
noncomputable def textsAt : Nat → List Str → List Value
  | _, [] => []
  | k, s :: l => .str s k :: textsAt (k + 1) l
noncomputable def constsAt : Nat → List PySem.Expr → List Value × Nat
  | k, [] => ([], k)
  | k, .Constant (.int i) _ _ :: l => let (vs, k') := constsAt (k + 1) l; (.int i k :: vs, k')
  | k, .Constant .none _ _ :: l => let (vs, k') := constsAt k l; (.none :: vs, k')
  | k, _ :: l => constsAt k l
noncomputable def tupO (vs : List Value) : Obj := { cls := .type "tuple", data := .seq vs.toArray }
noncomputable def codeO (c : Cfg) (name : Str) (args : Arguments) (body : List Stmt) (scope : Scope) (pos : Pos) (n k : Nat) : Obj :=
  let q := c.qual ++ name
  let (ls, cs) := (localNames args scope (.stmts body)).getD ([], [])
  let k3 := k + 3 + ls.length + cs.length
  let cx : CodeContext := { file := c.file, future := 0, inFunction := false, text := c.text }
  { cls := .type "code", data := .fields #[.str name k, .str q (k + 1), .str c.file (k + 2), rawInt pos.line, rawInt ((args.posonlyargs.length + args.args.length : Nat) : Int), rawInt (args.posonlyargs.length : Nat), rawInt (args.kwonlyargs.length : Nat),
    rawInt (functionFlags args.vararg.isSome args.kwarg.isSome scope cx : Nat), .ref n, .bool true, rawInt (c.text : Nat), .ref (n + 1), .none, .ref (n + 2), .ref (n + 3), .ref (n + 4), rawInt (k3 : Nat), rawInt pos.line, .str c.file (k3 + 1)] }
noncomputable def fnD (c : Cfg) (name : Str) (args : Arguments) (body : List Stmt) (scope : Scope) (dV : Value) (code : Addr) : FuncData :=
  { name, qualname := c.qual ++ name, params := args, body := .stmts body, scope, globals := mainNs, closure := [], defaults := dV, kwdefaults := .none, pyModule := c.modV, code := .ref code, builtins := builtinsNs }
noncomputable def fnO (fd : FuncData) : Obj := { cls := .type "function", data := .func fd }
noncomputable def layDef (P : Params) (c : Cfg) (name : Str) (args : Arguments) (body : List Stmt) (scope : Scope) (bind : Str) (pos : Pos) (dV : Value) : Acc → Acc
  | ⟨t, n, k, ents, pl⟩ => match (localNames args scope (.stmts body)).getD ([], []) with
    | (ls, cs) => ⟨((((((t.ins n (tupO [])).ins (n + 1) { cls := .none, data := .fields #[] }).ins (n + 2) (tupO (textsAt (k + 3) ls))).ins (n + 3) (tupO (textsAt (k + 3 + ls.length) cs))).ins (n + 4) { cls := .none, data := .func { name, qualname := c.qual ++ name, params := args, body := .stmts body, scope, globals := builtinsNs, closure := [], defaults := .none, kwdefaults := .none } }).ins (n + 5) (codeO c name args body scope pos n k)).ins (n + 6) (fnO (fnD c name args body scope dV (n + 5))),
        n + 7, k + 3 + ls.length + cs.length + 3, entOf P bind (k + 3 + ls.length + cs.length + 2) (.ref (n + 6)) :: ents, .ref (n + 5) :: rawInt pos.col :: rawInt pos.line :: pl⟩
noncomputable def laySt (P : Params) (c : Cfg) (st : Stmt) : Acc → Acc
  | ⟨t, n, k, ents, pl⟩ => match st with
    | .Assign [.Name id _] (.Constant (.int i) _ _) _ => ⟨t, n, k + 2, entOf P id (k + 1) (.int i k) :: ents, pl⟩
    | .Assign [.Name id _] (.Constant (.str s) _ _) _ => ⟨t, n, k + 2, entOf P id (k + 1) (.str s k) :: ents, pl⟩
    | .Assign [.Name id _] (.List elts _) _ => match elts with
      | .Name _ _ :: _ => ⟨t.ins n { cls := .type "list", data := .seq (c.instr.map Value.ref).toArray }, n + 1, k + 1, entOf P id k (.ref n) :: ents, pl⟩
      | _ => ⟨t.ins n { cls := .type "list", data := .seq (intsAt k elts).toArray }, n + 1, k + elts.length + 1, entOf P id (k + elts.length) (.ref n) :: ents, pl⟩
    | .FunctionDef name args body _ _ _ scope _ bind pos => match args.defaults with
      | [] => layDef P c name args body scope bind pos .none ⟨t, n, k, ents, pl⟩
      | ds => match constsAt k ds with
        | (vs, k') => layDef P c name args body scope bind pos (.ref n) ⟨t.ins n (tupO vs), n + 1, k', ents, pl⟩
    | _ => ⟨t, n, k, ents, pl⟩
noncomputable def defPair (c : Cfg) (st : Stmt) (n k : Nat) (dV : Value) : List (Nat × Obj) := match st with
  | .FunctionDef name args body _ _ _ scope _ _ pos => [(n + 6, fnO (fnD c name args body scope dV (n + 5))), (n + 5, codeO c name args body scope pos n k)]
  | _ => []
noncomputable def laySts (P : Params) (c : Cfg) : Nat → List Stmt → Acc → Acc
  | 0, _, a => a
  | j + 1, st :: l, a => laySts P c j l (laySt P c st a)
  | _ + 1, [], a => a
noncomputable def addEnts (new : List DictEntry) : Obj → Obj
  | ⟨c, d, .dict es n, s⟩ => ⟨c, d, .dict (es.toList ++ new).toArray (n + new.length), s⟩
  | o => o
noncomputable def addFields (new : List Value) : Obj → Obj
  | ⟨c, d, .fields vs, s⟩ => ⟨c, d, .fields (vs.toList ++ new).toArray, s⟩
  | o => o
noncomputable def accState (c : Cfg) (s : SharedT) (a : Acc) (kk : Nat) : SC := match a with
  | ⟨t, n, k, ents, pl⟩ => ⟨(t.set c.nsA (addEnts ents.reverse)).set c.plA (addFields pl.reverse), n, s.life, s.gens, s.drawn, k, s.os, kk⟩
noncomputable def posAfter : Stmt → Pos
  | .FunctionDef _ _ _ _ _ _ _ _ _ pos => pos
  | .Assign [.Name _ pos] _ _ => pos
  | _ => default
end Mine

end
section
open PySem PySem.W PyProof.Rows
set_option linter.unusedVariables false
set_option maxRecDepth 100000
namespace Mine
inductive Fld where
  | pc | a | x | y | sp | p | cyc | exc | addc | start | bm | am | ahm | spb | mem | name
  deriving DecidableEq
noncomputable def Fld.nm : Fld → Str
  | .pc => "pc" | .a => "a" | .x => "x" | .y => "y" | .sp => "sp" | .p => "p" | .cyc => "processorCycles" | .exc => "excycles" | .addc => "addcycles" | .start => "start_pc"
  | .bm => "byteMask" | .am => "addrMask" | .ahm => "addrHighMask" | .spb => "spBase" | .mem => "memory" | .name => "name"
noncomputable def Fld.all : List Fld := [.pc, .a, .x, .y, .sp, .p, .cyc, .exc, .addc, .start, .bm, .am, .ahm, .spb, .mem, .name]
theorem Fld.mem_all (f : Fld) : f ∈ Fld.all := by cases f <;> decide
theorem Fld.nm_inj : ∀ f g : Fld, f.nm = g.nm → f = g := by
  have : (Fld.all.all fun f => Fld.all.all fun g => decide (f.nm = g.nm → f = g)) = true := by decide +kernel
  intro f g
  have h := List.all_eq_true.mp this f (Fld.mem_all f)
  exact of_decide_eq_true (List.all_eq_true.mp h g (Fld.mem_all g))

inductive V where
  | int (i : Int) | bool (b : Bool) | none | self | meth (m : Nat) | txt | memr | unset
inductive BOp where
  | add | sub | and | or | xor | shl | shr
  deriving DecidableEq
inductive COp where
  | eq | ne | lt | le | gt | ge
  deriving DecidableEq
inductive E where
  | int (i : Int)
  | none
  | var (v : Nat)
  | fld (f : Fld)
  | cst (c : Nat)
  | mref (m : Nat)
  | mem (i : E)
  | tab (t : Nat) (i : E)
  | bin (op : BOp) (a b : E)
  | inv (a : E)
  | cmp (op : COp) (a b : E)
  | isNone (v : Nat)
  | isNoneF (f : Fld)
  | txt
  | bool (b : Bool)
  | stuck
  | call0 (m : Nat)
  | call1 (m : Nat) (a : E)
  | call2 (m : Nat) (a b : E)
  | callV (v : Nat)
  | callT (i : E)
mutual
inductive S where
  | expr (e : E)
  | asgV (v : Nat) (e : E)
  | asgF (f : Fld) (e : E)
  | asgM (i e : E)
  | augV (v : Nat) (op : BOp) (e : E)
  | augF (f : Fld) (op : BOp) (e : E)
  | ite (c : E) (a b : Ss)
  | ret (e : E)
  | ret0
  | pass
inductive Ss where
  | nil
  | cons (s : S) (r : Ss)
end

structure M where
  pc : V
  a : V
  x : V
  y : V
  sp : V
  p : V
  cyc : V
  exc : V
  addc : V
  start : V
  bm : V
  am : V
  ahm : V
  spb : V
  hm : Bool
  hn : Bool
  mem : List Int
noncomputable def M.get (σ : M) : Fld → V
  | .pc => σ.pc | .a => σ.a | .x => σ.x | .y => σ.y | .sp => σ.sp | .p => σ.p | .cyc => σ.cyc | .exc => σ.exc | .addc => σ.addc | .start => σ.start
  | .bm => σ.bm | .am => σ.am | .ahm => σ.ahm | .spb => σ.spb | .mem => (match σ.hm with | true => .memr | false => .unset) | .name => (match σ.hn with | true => .txt | false => .unset)
noncomputable def M.set (σ : M) : Fld → V → Option M
  | .pc, v => some { σ with pc := v } | .a, v => some { σ with a := v } | .x, v => some { σ with x := v } | .y, v => some { σ with y := v } | .sp, v => some { σ with sp := v }
  | .p, v => some { σ with p := v } | .cyc, v => some { σ with cyc := v } | .exc, v => some { σ with exc := v } | .addc, v => some { σ with addc := v } | .start, v => some { σ with start := v }
  | .bm, v => some { σ with bm := v } | .am, v => some { σ with am := v } | .ahm, v => some { σ with ahm := v } | .spb, v => some { σ with spb := v }
  | .mem, .memr => some { σ with hm := true } | .name, .txt => some { σ with hn := true }
  | .mem, _ => none | .name, _ => none
theorem M.get_set {σ σ' : M} {f : Fld} {v : V} (h : σ.set f v = some σ') : σ'.mem = σ.mem ∧ ∀ g, σ'.get g = if g = f then v else σ.get g := by
  cases f
  case mem => cases v <;> cases h; exact ⟨rfl, fun g => by cases g <;> rfl⟩
  case name => cases v <;> cases h; exact ⟨rfl, fun g => by cases g <;> rfl⟩
  all_goals ((injection h with h; subst h); exact ⟨rfl, fun g => by cases g <;> rfl⟩)

structure MethD where
  nm : Str
  np : Nat
  vars : List Str
  body : Ss
structure Cls where
  P : List MethD
  csts : List (Str × Int)
  tabs : List (Str × List Int)
  instrN : Str
  instr : List Nat

noncomputable def truth : V → Option Bool
  | .int i => some (i != 0)
  | .bool b => some b
  | .none => some false
  | _ => Option.none
noncomputable def BOp.ev : BOp → Int → Int → Option Int
  | .add, a, b => some (a + b)
  | .sub, a, b => some (a - b)
  | .and, a, b => some (Builtin.bitAnd a b)
  | .or, a, b => some (Builtin.bitOr a b)
  | .xor, a, b => some (Builtin.bitXor a b)
  | .shl, a, b => if 0 ≤ b ∧ b ≤ 64 ∧ a.natAbs < 2 ^ 64 then some (a * 2 ^ b.toNat) else Option.none
  | .shr, a, b => if 0 ≤ b then some (a.fdiv (2 ^ b.toNat)) else Option.none
noncomputable def COp.ev : COp → Int → Int → Bool
  | .eq, a, b => a == b
  | .ne, a, b => a != b
  | .lt, a, b => decide (a < b)
  | .le, a, b => decide (a ≤ b)
  | .gt, a, b => decide (a > b)
  | .ge, a, b => decide (a ≥ b)
noncomputable def at? (l : List Int) (k : Int) : Option Int := if 0 ≤ k then l[k.toNat]? else Option.none
noncomputable def putAt (l : List Int) (k v : Int) : Option (List Int) := if 0 ≤ k ∧ k.toNat < l.length then some (l.set k.toNat v) else Option.none

noncomputable abbrev Loc := List (Option V)
noncomputable def Loc.at (ρ : Loc) (v : Nat) : Option V := (ρ[v]?).join
section
variable {β : Type}
noncomputable def V.int? : V → Option Int
  | .int i => some i
  | _ => Option.none
noncomputable def V.meth? : V → Option Nat
  | .meth i => some i
  | _ => Option.none
noncomputable def V.got? : V → Option V
  | .unset => Option.none
  | v => some v
noncomputable def V.flat? : V → Option V
  | .unset => Option.none
  | .meth _ => Option.none
  | .self => Option.none
  | v => some v
noncomputable def V.isN? : V → Option Bool
  | .none => some true
  | .int _ => some false
  | .meth _ => some false
  | .memr => some false
  | _ => Option.none
noncomputable def V.isNF? : V → Option Bool
  | .none => some true
  | .int _ => some false
  | _ => Option.none
theorem V.int?_of {v : V} {i : Int} (h : v.int? = some i) : v = .int i := by cases v <;> cases h; rfl
theorem V.meth?_of {v : V} {i : Nat} (h : v.meth? = some i) : v = .meth i := by cases v <;> cases h; rfl
theorem V.got?_of {v u : V} (h : v.got? = some u) : v = u ∧ v ≠ .unset := by cases v <;> cases h <;> exact ⟨rfl, fun h => nomatch h⟩
noncomputable def onI (o : Option (V × M)) (f : Int → M → Option β) : Option β := o.bind fun r => r.1.int?.bind fun i => f i r.2
theorem onI_of {o : Option (V × M)} {f : Int → M → Option β} {r : β} (h : onI o f = some r) : ∃ k σ, o = some (.int k, σ) ∧ f k σ = some r := by
  refine Classical.byContradiction fun hHid => ?_
  obtain ⟨⟨v, σ⟩, e, h⟩ := Option.bind_eq_some_iff.mp h
  obtain ⟨i, e', h⟩ := Option.bind_eq_some_iff.mp h
  cases V.int?_of e'
  refine hHid ?_
  clear hHid
  exact ⟨i, σ, e, h⟩
theorem cond_of {b : Bool} {o : Option β} {r : β} (h : cond b o Option.none = some r) : b = true ∧ o = some r := by cases b; cases h; exact ⟨rfl, h⟩
theorem ite_of {p : Prop} [Decidable p] {o : Option β} {r : β} (h : (if p then o else Option.none) = some r) : p ∧ o = some r := by
  by_cases q : p
  · rw [if_pos q] at h; exact ⟨q, h⟩
  · rw [if_neg q] at h; injection h
theorem bind_of {α : Type} {o : Option α} {f : α → Option β} {r : β} (h : o.bind f = some r) : ∃ a, o = some a ∧ f a = some r := Option.bind_eq_some_iff.mp h
theorem and_el {a b : Bool} {K : Prop} (h : (a && b) = true) (k : a = true → b = true → K) : K := k (Bool.and_eq_true_iff.mp h).1 (Bool.and_eq_true_iff.mp h).2
theorem bind_el {α : Type} {o : Option α} {f : α → Option β} {r : β} {K : Prop} (h : o.bind f = some r) (k : ∀ a, o = some a → f a = some r → K) : K := let ⟨a, h1, h2⟩ := bind_of h; k a h1 h2
theorem map_of {α : Type} {o : Option α} {f : α → β} {r : β} (h : o.map f = some r) : ∃ a, o = some a ∧ f a = r := Option.map_eq_some_iff.mp h
theorem map_el {α : Type} {o : Option α} {f : α → β} {r : β} {K : Prop} (h : o.map f = some r) (k : ∀ a, o = some a → f a = r → K) : K := let ⟨a, h1, h2⟩ := map_of h; k a h1 h2
end

section
variable (c : Cls) (cf : Nat → List V → M → Option (V × M)) (ρ : Loc)
noncomputable def evE : E → M → Option (V × M)
  | .int i, σ => some (.int i, σ)
  | .none, σ => some (.none, σ)
  | .var v, σ => (ρ.at v).map fun x => (x, σ)
  | .fld f, σ => ((σ.get f).got?).map fun v => (v, σ)
  | .cst k, σ => (c.csts[k]?).map fun x => (.int x.2, σ)
  | .mref m, σ => some (.meth m, σ)
  | .mem i, σ => cond σ.hm (onI (evE i σ) fun k σ' => (at? σ'.mem k).map fun x => (.int x, σ')) Option.none
  | .tab t i, σ => onI (evE i σ) fun k σ' => (c.tabs[t]?).bind fun l => (at? l.2 k).map fun x => (.int x, σ')
  | .bin op a b, σ => onI (evE a σ) fun i σ₁ => onI (evE b σ₁) fun j σ₂ => (op.ev i j).map fun r => (.int r, σ₂)
  | .inv a, σ => onI (evE a σ) fun i σ₁ => some (.int (Builtin.bitNot i), σ₁)
  | .cmp op a b, σ => onI (evE a σ) fun i σ₁ => onI (evE b σ₁) fun j σ₂ => some (.bool (op.ev i j), σ₂)
  | .isNone v, σ => (ρ.at v).bind fun u => u.isN?.map fun b => (.bool b, σ)
  | .isNoneF f, σ => (σ.get f).isNF?.map fun b => (.bool b, σ)
  | .txt, σ => some (.txt, σ)
  | .bool b, σ => some (.bool b, σ)
  | .stuck, _ => Option.none
  | .call0 m, σ => cf m [] σ
  | .call1 m a, σ => (evE a σ).bind fun r => cf m [r.1] r.2
  | .call2 m a b, σ => (evE a σ).bind fun r => (evE b r.2).bind fun r₂ => cf m [r.1, r₂.1] r₂.2
  | .callV v, σ => (ρ.at v).bind fun u => u.meth?.bind fun m => cf m [] σ
  | .callT i, σ => onI (evE i σ) fun k σ₁ => if 0 ≤ k then (c.instr[k.toNat]?).bind fun m => cf m [] σ₁ else Option.none
end
inductive Fl where
  | next
  | ret (v : V)
section
variable (c : Cls) (cf : Nat → List V → M → Option (V × M))
mutual
noncomputable def exS : S → Loc → M → Option (Fl × Loc × M)
  | .expr e, ρ, σ => (evE c cf ρ e σ).map fun r => (.next, ρ, r.2)
  | .asgV v e, ρ, σ => (evE c cf ρ e σ).bind fun r => if v < ρ.length then some (.next, ρ.set v (some r.1), r.2) else Option.none
  | .asgF f e, ρ, σ => (evE c cf ρ e σ).bind fun r => r.1.flat?.bind fun x => (r.2.set f x).map fun σ₂ => (.next, ρ, σ₂)
  | .asgM i e, ρ, σ => onI (evE c cf ρ e σ) fun x σ₁ => cond σ₁.hm (onI (evE c cf ρ i σ₁) fun k σ₂ => (putAt σ₂.mem k x).map fun l => (.next, ρ, { σ₂ with mem := l })) Option.none
  | .augV v op e, ρ, σ => (ρ.at v).bind fun u => u.int?.bind fun a => onI (evE c cf ρ e σ) fun b σ₁ => (op.ev a b).bind fun r => if v < ρ.length then some (.next, ρ.set v (some (.int r)), σ₁) else Option.none
  | .augF f op e, ρ, σ => (σ.get f).int?.bind fun a => onI (evE c cf ρ e σ) fun b σ₁ => (op.ev a b).bind fun r => (σ₁.set f (.int r)).map fun σ₂ => (.next, ρ, σ₂)
  | .ite t a b, ρ, σ => (evE c cf ρ t σ).bind fun r => (truth r.1).bind fun q => cond q (exSs a ρ r.2) (exSs b ρ r.2)
  | .ret e, ρ, σ => (evE c cf ρ e σ).map fun r => (.ret r.1, ρ, r.2)
  | .ret0, ρ, σ => some (.ret .none, ρ, σ)
  | .pass, ρ, σ => some (.next, ρ, σ)
noncomputable def exSs : Ss → Loc → M → Option (Fl × Loc × M)
  | .nil, ρ, σ => some (.next, ρ, σ)
  | .cons s r, ρ, σ => (exS s ρ σ).bind fun q => match q.1 with
    | .next => exSs r q.2.1 q.2.2
    | .ret v => some (.ret v, q.2)
end
end
noncomputable def Fl.out : Fl → V
  | .next => .none
  | .ret v => v
noncomputable def callM (c : Cls) : Nat → Nat → List V → M → Option (V × M)
  | 0, _, _, _ => Option.none
  | d + 1, m, args, σ => (c.P[m]?).bind fun md => if args.length + 1 = md.np then (exSs c (callM c d) md.body ((some V.self :: args.map some) ++ List.replicate (md.vars.length - md.np) Option.none) σ).map fun r => (r.1.out, r.2.2) else Option.none
noncomputable def BOp.op : BOp → Operator
  | .add => .Add | .sub => .Sub | .and => .BitAnd | .or => .BitOr | .xor => .BitXor | .shl => .LShift | .shr => .RShift
noncomputable def COp.op : COp → CmpOp
  | .eq => .Eq | .ne => .NotEq | .lt => .Lt | .le => .LtE | .gt => .Gt | .ge => .GtE
noncomputable def plainE : PySem.Expr → Bool
  | .Name .. => true | .Attribute .. => true | .Call .. => true | .BinOp .. => true | .Subscript .. => true | .UnaryOp .. => true | .Constant (.int _) _ _ => true | .Constant (.str _) _ _ => true | .Constant (.bool _) _ _ => true | .Constant .none _ _ => true
  | _ => false
noncomputable def o_Constant (x : PySem.Expr) (f : PySem.Const → Nat → Pos → Bool) : Bool := if h : x.ctorIdx = 19 then PySem.Expr.Constant.elim (motive_1 := fun _ => Bool) x h f else false
theorem o_Constant_elim {x : PySem.Expr} {f : PySem.Const → Nat → Pos → Bool} {P : PySem.Expr → Prop} (h : o_Constant x f = true) (k : ∀ a0 a1 a2, f a0 a1 a2 = true → P (.Constant a0 a1 a2)) : P x := by
  by_cases e : x.ctorIdx = 19
  · exact PySem.Expr.Constant.elim (motive_1 := fun x => o_Constant x f = true → P x) x e (fun a0 a1 a2 h => k a0 a1 a2 h) h
  · exact absurd ((dif_neg e).symm.trans h) Bool.false_ne_true
noncomputable def o_Name (x : PySem.Expr) (f : Str → Pos → Bool) : Bool := if h : x.ctorIdx = 23 then PySem.Expr.Name.elim (motive_1 := fun _ => Bool) x h f else false
theorem o_Name_elim {x : PySem.Expr} {f : Str → Pos → Bool} {P : PySem.Expr → Prop} (h : o_Name x f = true) (k : ∀ a0 a1, f a0 a1 = true → P (.Name a0 a1)) : P x := by
  by_cases e : x.ctorIdx = 23
  · exact PySem.Expr.Name.elim (motive_1 := fun x => o_Name x f = true → P x) x e (fun a0 a1 h => k a0 a1 h) h
  · exact absurd ((dif_neg e).symm.trans h) Bool.false_ne_true
noncomputable def o_Attribute (x : PySem.Expr) (f : PySem.Expr → Str → Pos → Bool) : Bool := if h : x.ctorIdx = 20 then PySem.Expr.Attribute.elim (motive_1 := fun _ => Bool) x h f else false
theorem o_Attribute_elim {x : PySem.Expr} {f : PySem.Expr → Str → Pos → Bool} {P : PySem.Expr → Prop} (h : o_Attribute x f = true) (k : ∀ a0 a1 a2, f a0 a1 a2 = true → P (.Attribute a0 a1 a2)) : P x := by
  by_cases e : x.ctorIdx = 20
  · exact PySem.Expr.Attribute.elim (motive_1 := fun x => o_Attribute x f = true → P x) x e (fun a0 a1 a2 h => k a0 a1 a2 h) h
  · exact absurd ((dif_neg e).symm.trans h) Bool.false_ne_true
noncomputable def o_Subscript (x : PySem.Expr) (f : PySem.Expr → PySem.Expr → Pos → Bool) : Bool := if h : x.ctorIdx = 21 then PySem.Expr.Subscript.elim (motive_1 := fun _ => Bool) x h f else false
theorem o_Subscript_elim {x : PySem.Expr} {f : PySem.Expr → PySem.Expr → Pos → Bool} {P : PySem.Expr → Prop} (h : o_Subscript x f = true) (k : ∀ a0 a1 a2, f a0 a1 a2 = true → P (.Subscript a0 a1 a2)) : P x := by
  by_cases e : x.ctorIdx = 21
  · exact PySem.Expr.Subscript.elim (motive_1 := fun x => o_Subscript x f = true → P x) x e (fun a0 a1 a2 h => k a0 a1 a2 h) h
  · exact absurd ((dif_neg e).symm.trans h) Bool.false_ne_true
noncomputable def o_BinOp (x : PySem.Expr) (f : PySem.Expr → Operator → PySem.Expr → Pos → Bool) : Bool := if h : x.ctorIdx = 2 then PySem.Expr.BinOp.elim (motive_1 := fun _ => Bool) x h f else false
theorem o_BinOp_elim {x : PySem.Expr} {f : PySem.Expr → Operator → PySem.Expr → Pos → Bool} {P : PySem.Expr → Prop} (h : o_BinOp x f = true) (k : ∀ a0 a1 a2 a3, f a0 a1 a2 a3 = true → P (.BinOp a0 a1 a2 a3)) : P x := by
  by_cases e : x.ctorIdx = 2
  · exact PySem.Expr.BinOp.elim (motive_1 := fun x => o_BinOp x f = true → P x) x e (fun a0 a1 a2 a3 h => k a0 a1 a2 a3 h) h
  · exact absurd ((dif_neg e).symm.trans h) Bool.false_ne_true
noncomputable def o_UnaryOp (x : PySem.Expr) (f : PySem.UnaryOp → PySem.Expr → Pos → Bool) : Bool := if h : x.ctorIdx = 3 then PySem.Expr.UnaryOp.elim (motive_1 := fun _ => Bool) x h f else false
theorem o_UnaryOp_elim {x : PySem.Expr} {f : PySem.UnaryOp → PySem.Expr → Pos → Bool} {P : PySem.Expr → Prop} (h : o_UnaryOp x f = true) (k : ∀ a0 a1 a2, f a0 a1 a2 = true → P (.UnaryOp a0 a1 a2)) : P x := by
  by_cases e : x.ctorIdx = 3
  · exact PySem.Expr.UnaryOp.elim (motive_1 := fun x => o_UnaryOp x f = true → P x) x e (fun a0 a1 a2 h => k a0 a1 a2 h) h
  · exact absurd ((dif_neg e).symm.trans h) Bool.false_ne_true
noncomputable def o_Compare (x : PySem.Expr) (f : PySem.Expr → (List CmpOp) → (List PySem.Expr) → Pos → Bool) : Bool := if h : x.ctorIdx = 15 then PySem.Expr.Compare.elim (motive_1 := fun _ => Bool) x h f else false
theorem o_Compare_elim {x : PySem.Expr} {f : PySem.Expr → (List CmpOp) → (List PySem.Expr) → Pos → Bool} {P : PySem.Expr → Prop} (h : o_Compare x f = true) (k : ∀ a0 a1 a2 a3, f a0 a1 a2 a3 = true → P (.Compare a0 a1 a2 a3)) : P x := by
  by_cases e : x.ctorIdx = 15
  · exact PySem.Expr.Compare.elim (motive_1 := fun x => o_Compare x f = true → P x) x e (fun a0 a1 a2 a3 h => k a0 a1 a2 a3 h) h
  · exact absurd ((dif_neg e).symm.trans h) Bool.false_ne_true
noncomputable def o_BoolOp (x : PySem.Expr) (f : PySem.BoolOp → (List PySem.Expr) → Pos → Bool) : Bool := if h : x.ctorIdx = 0 then PySem.Expr.BoolOp.elim (motive_1 := fun _ => Bool) x h f else false
theorem o_BoolOp_elim {x : PySem.Expr} {f : PySem.BoolOp → (List PySem.Expr) → Pos → Bool} {P : PySem.Expr → Prop} (h : o_BoolOp x f = true) (k : ∀ a0 a1 a2, f a0 a1 a2 = true → P (.BoolOp a0 a1 a2)) : P x := by
  by_cases e : x.ctorIdx = 0
  · exact PySem.Expr.BoolOp.elim (motive_1 := fun x => o_BoolOp x f = true → P x) x e (fun a0 a1 a2 h => k a0 a1 a2 h) h
  · exact absurd ((dif_neg e).symm.trans h) Bool.false_ne_true
noncomputable def o_IfExp (x : PySem.Expr) (f : PySem.Expr → PySem.Expr → PySem.Expr → Pos → Bool) : Bool := if h : x.ctorIdx = 5 then PySem.Expr.IfExp.elim (motive_1 := fun _ => Bool) x h f else false
theorem o_IfExp_elim {x : PySem.Expr} {f : PySem.Expr → PySem.Expr → PySem.Expr → Pos → Bool} {P : PySem.Expr → Prop} (h : o_IfExp x f = true) (k : ∀ a0 a1 a2 a3, f a0 a1 a2 a3 = true → P (.IfExp a0 a1 a2 a3)) : P x := by
  by_cases e : x.ctorIdx = 5
  · exact PySem.Expr.IfExp.elim (motive_1 := fun x => o_IfExp x f = true → P x) x e (fun a0 a1 a2 a3 h => k a0 a1 a2 a3 h) h
  · exact absurd ((dif_neg e).symm.trans h) Bool.false_ne_true
noncomputable def o_Slice (x : PySem.Expr) (f : (Option PySem.Expr) → (Option PySem.Expr) → (Option PySem.Expr) → Pos → Bool) : Bool := if h : x.ctorIdx = 26 then PySem.Expr.Slice.elim (motive_1 := fun _ => Bool) x h f else false
theorem o_Slice_elim {x : PySem.Expr} {f : (Option PySem.Expr) → (Option PySem.Expr) → (Option PySem.Expr) → Pos → Bool} {P : PySem.Expr → Prop} (h : o_Slice x f = true) (k : ∀ a0 a1 a2 a3, f a0 a1 a2 a3 = true → P (.Slice a0 a1 a2 a3)) : P x := by
  by_cases e : x.ctorIdx = 26
  · exact PySem.Expr.Slice.elim (motive_1 := fun x => o_Slice x f = true → P x) x e (fun a0 a1 a2 a3 h => k a0 a1 a2 a3 h) h
  · exact absurd ((dif_neg e).symm.trans h) Bool.false_ne_true
noncomputable def o_Call (x : PySem.Expr) (f : PySem.Expr → (List PySem.Expr) → (List Keyword) → Pos → Bool) : Bool := if h : x.ctorIdx = 16 then PySem.Expr.Call.elim (motive_1 := fun _ => Bool) x h f else false
theorem o_Call_elim {x : PySem.Expr} {f : PySem.Expr → (List PySem.Expr) → (List Keyword) → Pos → Bool} {P : PySem.Expr → Prop} (h : o_Call x f = true) (k : ∀ a0 a1 a2 a3, f a0 a1 a2 a3 = true → P (.Call a0 a1 a2 a3)) : P x := by
  by_cases e : x.ctorIdx = 16
  · exact PySem.Expr.Call.elim (motive_1 := fun x => o_Call x f = true → P x) x e (fun a0 a1 a2 a3 h => k a0 a1 a2 a3 h) h
  · exact absurd ((dif_neg e).symm.trans h) Bool.false_ne_true
noncomputable def o_List (x : PySem.Expr) (f : (List PySem.Expr) → Pos → Bool) : Bool := if h : x.ctorIdx = 24 then PySem.Expr.List.elim (motive_1 := fun _ => Bool) x h f else false
theorem o_List_elim {x : PySem.Expr} {f : (List PySem.Expr) → Pos → Bool} {P : PySem.Expr → Prop} (h : o_List x f = true) (k : ∀ a0 a1, f a0 a1 = true → P (.List a0 a1)) : P x := by
  by_cases e : x.ctorIdx = 24
  · exact PySem.Expr.List.elim (motive_1 := fun x => o_List x f = true → P x) x e (fun a0 a1 h => k a0 a1 h) h
  · exact absurd ((dif_neg e).symm.trans h) Bool.false_ne_true
noncomputable def o_Tuple (x : PySem.Expr) (f : (List PySem.Expr) → Nat → Pos → Bool) : Bool := if h : x.ctorIdx = 25 then PySem.Expr.Tuple.elim (motive_1 := fun _ => Bool) x h f else false
theorem o_Tuple_elim {x : PySem.Expr} {f : (List PySem.Expr) → Nat → Pos → Bool} {P : PySem.Expr → Prop} (h : o_Tuple x f = true) (k : ∀ a0 a1 a2, f a0 a1 a2 = true → P (.Tuple a0 a1 a2)) : P x := by
  by_cases e : x.ctorIdx = 25
  · exact PySem.Expr.Tuple.elim (motive_1 := fun x => o_Tuple x f = true → P x) x e (fun a0 a1 a2 h => k a0 a1 a2 h) h
  · exact absurd ((dif_neg e).symm.trans h) Bool.false_ne_true
noncomputable def o_ListComp (x : PySem.Expr) (f : PySem.Expr → (List Comprehension) → Scope → Pos → Bool) : Bool := if h : x.ctorIdx = 8 then PySem.Expr.ListComp.elim (motive_1 := fun _ => Bool) x h f else false
theorem o_ListComp_elim {x : PySem.Expr} {f : PySem.Expr → (List Comprehension) → Scope → Pos → Bool} {P : PySem.Expr → Prop} (h : o_ListComp x f = true) (k : ∀ a0 a1 a2 a3, f a0 a1 a2 a3 = true → P (.ListComp a0 a1 a2 a3)) : P x := by
  by_cases e : x.ctorIdx = 8
  · exact PySem.Expr.ListComp.elim (motive_1 := fun x => o_ListComp x f = true → P x) x e (fun a0 a1 a2 a3 h => k a0 a1 a2 a3 h) h
  · exact absurd ((dif_neg e).symm.trans h) Bool.false_ne_true
noncomputable def o_int (x : PySem.Const) (f : Int → Bool) : Bool := if h : x.ctorIdx = 2 then PySem.Const.int.elim (motive := fun _ => Bool) x h f else false
theorem o_int_elim {x : PySem.Const} {f : Int → Bool} {P : PySem.Const → Prop} (h : o_int x f = true) (k : ∀ a0, f a0 = true → P (.int a0)) : P x := by
  by_cases e : x.ctorIdx = 2
  · exact PySem.Const.int.elim (motive := fun x => o_int x f = true → P x) x e (fun a0 h => k a0 h) h
  · exact absurd ((dif_neg e).symm.trans h) Bool.false_ne_true
noncomputable def o_bool (x : PySem.Const) (f : Bool → Bool) : Bool := if h : x.ctorIdx = 1 then PySem.Const.bool.elim (motive := fun _ => Bool) x h f else false
theorem o_bool_elim {x : PySem.Const} {f : Bool → Bool} {P : PySem.Const → Prop} (h : o_bool x f = true) (k : ∀ a0, f a0 = true → P (.bool a0)) : P x := by
  by_cases e : x.ctorIdx = 1
  · exact PySem.Const.bool.elim (motive := fun x => o_bool x f = true → P x) x e (fun a0 h => k a0 h) h
  · exact absurd ((dif_neg e).symm.trans h) Bool.false_ne_true
noncomputable def o_str (x : PySem.Const) (f : Str → Bool) : Bool := if h : x.ctorIdx = 5 then PySem.Const.str.elim (motive := fun _ => Bool) x h f else false
theorem o_str_elim {x : PySem.Const} {f : Str → Bool} {P : PySem.Const → Prop} (h : o_str x f = true) (k : ∀ a0, f a0 = true → P (.str a0)) : P x := by
  by_cases e : x.ctorIdx = 5
  · exact PySem.Const.str.elim (motive := fun x => o_str x f = true → P x) x e (fun a0 h => k a0 h) h
  · exact absurd ((dif_neg e).symm.trans h) Bool.false_ne_true
noncomputable def o_none (x : PySem.Const) (f : Bool) : Bool := if h : x.ctorIdx = 0 then PySem.Const.none.elim (motive := fun _ => Bool) x h f else false
theorem o_none_elim {x : PySem.Const} {f : Bool} {P : PySem.Const → Prop} (h : o_none x f = true) (k : f = true → P .none) : P x := by
  by_cases e : x.ctorIdx = 0
  · exact PySem.Const.none.elim (motive := fun x => o_none x f = true → P x) x e (fun h => k h) h
  · exact absurd ((dif_neg e).symm.trans h) Bool.false_ne_true
noncomputable def o_Expr (x : Stmt) (f : PySem.Expr → Pos → Bool) : Bool := if h : x.ctorIdx = 24 then PySem.Stmt.Expr.elim (motive_2 := fun _ => Bool) x h f else false
theorem o_Expr_elim {x : Stmt} {f : PySem.Expr → Pos → Bool} {P : Stmt → Prop} (h : o_Expr x f = true) (k : ∀ a0 a1, f a0 a1 = true → P (.Expr a0 a1)) : P x := by
  by_cases e : x.ctorIdx = 24
  · exact PySem.Stmt.Expr.elim (motive_2 := fun x => o_Expr x f = true → P x) x e (fun a0 a1 h => k a0 a1 h) h
  · exact absurd ((dif_neg e).symm.trans h) Bool.false_ne_true
noncomputable def o_Assign (x : Stmt) (f : (List PySem.Expr) → PySem.Expr → Pos → Bool) : Bool := if h : x.ctorIdx = 5 then PySem.Stmt.Assign.elim (motive_2 := fun _ => Bool) x h f else false
theorem o_Assign_elim {x : Stmt} {f : (List PySem.Expr) → PySem.Expr → Pos → Bool} {P : Stmt → Prop} (h : o_Assign x f = true) (k : ∀ a0 a1 a2, f a0 a1 a2 = true → P (.Assign a0 a1 a2)) : P x := by
  by_cases e : x.ctorIdx = 5
  · exact PySem.Stmt.Assign.elim (motive_2 := fun x => o_Assign x f = true → P x) x e (fun a0 a1 a2 h => k a0 a1 a2 h) h
  · exact absurd ((dif_neg e).symm.trans h) Bool.false_ne_true
noncomputable def o_AugAssign (x : Stmt) (f : PySem.Expr → Operator → PySem.Expr → Pos → Bool) : Bool := if h : x.ctorIdx = 7 then PySem.Stmt.AugAssign.elim (motive_2 := fun _ => Bool) x h f else false
theorem o_AugAssign_elim {x : Stmt} {f : PySem.Expr → Operator → PySem.Expr → Pos → Bool} {P : Stmt → Prop} (h : o_AugAssign x f = true) (k : ∀ a0 a1 a2 a3, f a0 a1 a2 a3 = true → P (.AugAssign a0 a1 a2 a3)) : P x := by
  by_cases e : x.ctorIdx = 7
  · exact PySem.Stmt.AugAssign.elim (motive_2 := fun x => o_AugAssign x f = true → P x) x e (fun a0 a1 a2 a3 h => k a0 a1 a2 a3 h) h
  · exact absurd ((dif_neg e).symm.trans h) Bool.false_ne_true
noncomputable def o_If (x : Stmt) (f : PySem.Expr → (List Stmt) → (List Stmt) → Pos → Bool) : Bool := if h : x.ctorIdx = 12 then PySem.Stmt.If.elim (motive_2 := fun _ => Bool) x h f else false
theorem o_If_elim {x : Stmt} {f : PySem.Expr → (List Stmt) → (List Stmt) → Pos → Bool} {P : Stmt → Prop} (h : o_If x f = true) (k : ∀ a0 a1 a2 a3, f a0 a1 a2 a3 = true → P (.If a0 a1 a2 a3)) : P x := by
  by_cases e : x.ctorIdx = 12
  · exact PySem.Stmt.If.elim (motive_2 := fun x => o_If x f = true → P x) x e (fun a0 a1 a2 a3 h => k a0 a1 a2 a3 h) h
  · exact absurd ((dif_neg e).symm.trans h) Bool.false_ne_true
noncomputable def o_For (x : Stmt) (f : PySem.Expr → PySem.Expr → (List Stmt) → (List Stmt) → Pos → Bool) : Bool := if h : x.ctorIdx = 9 then PySem.Stmt.For.elim (motive_2 := fun _ => Bool) x h f else false
theorem o_For_elim {x : Stmt} {f : PySem.Expr → PySem.Expr → (List Stmt) → (List Stmt) → Pos → Bool} {P : Stmt → Prop} (h : o_For x f = true) (k : ∀ a0 a1 a2 a3 a4, f a0 a1 a2 a3 a4 = true → P (.For a0 a1 a2 a3 a4)) : P x := by
  by_cases e : x.ctorIdx = 9
  · exact PySem.Stmt.For.elim (motive_2 := fun x => o_For x f = true → P x) x e (fun a0 a1 a2 a3 a4 h => k a0 a1 a2 a3 a4 h) h
  · exact absurd ((dif_neg e).symm.trans h) Bool.false_ne_true
noncomputable def o_While (x : Stmt) (f : PySem.Expr → (List Stmt) → (List Stmt) → Pos → Bool) : Bool := if h : x.ctorIdx = 11 then PySem.Stmt.While.elim (motive_2 := fun _ => Bool) x h f else false
noncomputable def o_Return (x : Stmt) (f : (Option PySem.Expr) → Pos → Bool) : Bool := if h : x.ctorIdx = 3 then PySem.Stmt.Return.elim (motive_2 := fun _ => Bool) x h f else false
theorem o_Return_elim {x : Stmt} {f : (Option PySem.Expr) → Pos → Bool} {P : Stmt → Prop} (h : o_Return x f = true) (k : ∀ a0 a1, f a0 a1 = true → P (.Return a0 a1)) : P x := by
  by_cases e : x.ctorIdx = 3
  · exact PySem.Stmt.Return.elim (motive_2 := fun x => o_Return x f = true → P x) x e (fun a0 a1 h => k a0 a1 h) h
  · exact absurd ((dif_neg e).symm.trans h) Bool.false_ne_true
noncomputable def o_Break (x : Stmt) (f : Pos → Bool) : Bool := if h : x.ctorIdx = 26 then PySem.Stmt.Break.elim (motive_2 := fun _ => Bool) x h f else false
theorem o_Break_elim {x : Stmt} {f : Pos → Bool} {P : Stmt → Prop} (h : o_Break x f = true) (k : ∀ a0, f a0 = true → P (.Break a0)) : P x := by
  by_cases e : x.ctorIdx = 26
  · exact PySem.Stmt.Break.elim (motive_2 := fun x => o_Break x f = true → P x) x e (fun a0 h => k a0 h) h
  · exact absurd ((dif_neg e).symm.trans h) Bool.false_ne_true
noncomputable def o_Pass (x : Stmt) (f : Pos → Bool) : Bool := if h : x.ctorIdx = 25 then PySem.Stmt.Pass.elim (motive_2 := fun _ => Bool) x h f else false
theorem o_Pass_elim {x : Stmt} {f : Pos → Bool} {P : Stmt → Prop} (h : o_Pass x f = true) (k : ∀ a0, f a0 = true → P (.Pass a0)) : P x := by
  by_cases e : x.ctorIdx = 25
  · exact PySem.Stmt.Pass.elim (motive_2 := fun x => o_Pass x f = true → P x) x e (fun a0 h => k a0 h) h
  · exact absurd ((dif_neg e).symm.trans h) Bool.false_ne_true
noncomputable def o_nil {α : Type} (x : List α) (f : Bool) : Bool := match x with
  | [] => f
  | _ => false
theorem o_nil_elim {α : Type} {x : List α} {f : Bool} {P : List α → Prop} (h : o_nil x f = true) (k : f = true → P []) : P x := by
  cases x with
  | nil => exact k h
  | cons _ _ => exact absurd h Bool.false_ne_true
noncomputable def o_cons {α : Type} (x : List α) (f : α → List α → Bool) : Bool := match x with
  | a :: l => f a l
  | _ => false
theorem o_cons_elim {α : Type} {x : List α} {f : α → List α → Bool} {P : List α → Prop} (h : o_cons x f = true) (k : ∀ a l, f a l = true → P (a :: l)) : P x := by
  cases x with
  | nil => exact absurd h Bool.false_ne_true
  | cons a l => exact k a l h
noncomputable def o_some {α : Type} (x : Option α) (f : α → Bool) : Bool := match x with
  | some a => f a
  | _ => false
theorem o_some_elim {α : Type} {x : Option α} {f : α → Bool} {P : Option α → Prop} (h : o_some x f = true) (k : ∀ a, f a = true → P (some a)) : P x := by
  cases x with
  | none => exact absurd h Bool.false_ne_true
  | some a => exact k a h
noncomputable def o_non {α : Type} (x : Option α) (f : Bool) : Bool := match x with
  | Option.none => f
  | _ => false
theorem o_non_elim {α : Type} {x : Option α} {f : Bool} {P : Option α → Prop} (h : o_non x f = true) (k : f = true → P Option.none) : P x := by
  cases x with
  | none => exact k h
  | some a => exact absurd h Bool.false_ne_true
noncomputable def o_G (x : Comprehension) (f : PySem.Expr → PySem.Expr → List PySem.Expr → Int → Bool) : Bool := match x with
  | ⟨a, b, c, d⟩ => f a b c d
theorem o_G_elim {x : Comprehension} {f : PySem.Expr → PySem.Expr → List PySem.Expr → Int → Bool} {P : Comprehension → Prop} (h : o_G x f = true) (k : ∀ a b c d, f a b c d = true → P ⟨a, b, c, d⟩) : P x := by
  cases x
  exact k _ _ _ _ h
noncomputable def o_K (x : Keyword) (f : Option Str → PySem.Expr → Pos → Bool) : Bool := match x with
  | ⟨a, b, c⟩ => f a b c
theorem o_K_elim {x : Keyword} {f : Option Str → PySem.Expr → Pos → Bool} {P : Keyword → Prop} (h : o_K x f = true) (k : ∀ a b c, f a b c = true → P ⟨a, b, c⟩) : P x := by
  cases x
  exact k _ _ _ h
noncomputable def isSelf (e : PySem.Expr) : Bool := o_Name e fun n _ => n == ("self" : Str)
section
variable (c : Cls) (vars : List Str)
noncomputable def isVar (v : Nat) (n : Str) : Bool := vars[v]? == some n
noncomputable def isMeth (m : Nat) (n : Str) : Bool := match c.P[m]? with | some md => md.nm == n | Option.none => false
noncomputable def trE : E → PySem.Expr → Bool
  | .int i, x₀ => o_Constant x₀ fun z1 z2 z3 => o_int z1 fun j => i == j
  | .none, x₀ => o_Constant x₀ fun z1 z2 z3 => o_none z1 (true)
  | .var v, x₀ => o_Name x₀ fun n z1 => isVar vars v n
  | .fld f, x₀ => o_Attribute x₀ fun b n z1 => isSelf b && f.nm == n
  | .cst k, x₀ => o_Attribute x₀ fun b n z1 => isSelf b && (match c.csts[k]? with | some x => x.1 == n | Option.none => false)
  | .mref m, x₀ => o_Attribute x₀ fun b n z1 => isSelf b && isMeth c m n
  | .mem i, x₀ => o_Subscript x₀ fun z1 e z2 => o_Attribute z1 fun b n z3 => isSelf b && (n == ("memory" : Str)) && plainE e && trE i e
  | .tab t i, x₀ => o_Subscript x₀ fun z1 e z2 => o_Attribute z1 fun b n z3 => isSelf b && (match c.tabs[t]? with | some x => x.1 == n | Option.none => false) && plainE e && trE i e
  | .bin op a b, x₀ => o_BinOp x₀ fun l o r z1 => o == op.op && trE a l && trE b r
  | .inv a, x₀ => o_UnaryOp x₀ fun o e z1 => o == .Invert && trE a e
  | .cmp op a b, x₀ => o_Compare x₀ fun l z1 z2 z3 => o_cons z1 fun o z4 => o_nil z4 (o_cons z2 fun r z5 => o_nil z5 (o == op.op && plainE r && trE a l && trE b r))
  | .isNone v, x₀ => o_Compare x₀ fun z1 z2 z3 z4 => o_Name z1 fun n z5 => o_cons z2 fun o z6 => o_nil z6 (o_cons z3 fun z7 z8 => o_Constant z7 fun z9 z10 z11 => o_none z9 (o_nil z8 (o == .Is && isVar vars v n)))
  | .isNoneF f, x₀ => o_Compare x₀ fun z1 z2 z3 z4 => o_Attribute z1 fun b n z5 => o_cons z2 fun o z6 => o_nil z6 (o_cons z3 fun z7 z8 => o_Constant z7 fun z9 z10 z11 => o_none z9 (o_nil z8 (o == .Is && isSelf b && f.nm == n)))
  | .txt, x₀ => o_Constant x₀ fun z1 z2 z3 => o_str z1 fun z4 => true
  | .bool b, x₀ => o_Constant x₀ fun z1 z2 z3 => o_bool z1 fun d => b == d
  | .stuck, _ => true
  | .call0 m, x₀ => o_Call x₀ fun z1 z2 z3 p => o_Attribute z1 fun b n ap => o_nil z2 (o_nil z3 (isSelf b && isMeth c m n && ap.endLine == p.line))
  | .call1 m a, x₀ => o_Call x₀ fun z1 z2 z3 p => o_Attribute z1 fun b n ap => o_cons z2 fun e z4 => o_nil z4 (o_nil z3 (isSelf b && isMeth c m n && ap.endLine == p.line && plainE e && trE a e))
  | .call2 m a d, x₀ => o_Call x₀ fun z1 z2 z3 p => o_Attribute z1 fun b n ap => o_cons z2 fun e z4 => o_cons z4 fun f z5 => o_nil z5 (o_nil z3 (isSelf b && isMeth c m n && ap.endLine == p.line && plainE e && plainE f && trE a e && trE d f))
  | .callV v, x₀ => o_Call x₀ fun z1 z2 z3 z4 => o_Name z1 fun n z5 => o_nil z2 (o_nil z3 (isVar vars v n))
  | .callT i, x₀ => o_Call x₀ fun z1 z2 z3 z4 => o_Subscript z1 fun z5 e z6 => o_Attribute z5 fun b n z7 => o_cons z2 fun z8 z9 => o_Name z8 fun s z10 => o_nil z9 (o_nil z3 (isSelf b && (n == c.instrN) && plainE e && trE i e && (s == ("self" : Str))))
noncomputable def cmpE : E → Bool
  | .cmp _ _ _ => true
  | .isNone _ => true
  | .isNoneF _ => true
  | _ => false
noncomputable def plainT : PySem.Expr → Bool
  | .Name .. => true | .Attribute .. => true | .Call .. => true | .BinOp .. => true | .Subscript .. => true | .Constant .. => true
  | _ => false
mutual
noncomputable def trS : S → Stmt → Bool
  | .expr e, x₀ => o_Expr x₀ fun x z1 => plainE x && trE c vars e x
  | .asgV v e, x₀ => o_Assign x₀ fun z1 x z2 => o_cons z1 fun z3 z4 => o_Name z3 fun n z5 => o_nil z4 (v != 0 && isVar vars v n && plainE x && trE c vars e x)
  | .asgF f e, x₀ => o_Assign x₀ fun z1 x z2 => o_cons z1 fun z3 z4 => o_Attribute z3 fun b n z5 => o_nil z4 (isSelf b && f.nm == n && plainE x && trE c vars e x)
  | .asgM i e, x₀ => o_Assign x₀ fun z1 y z2 => o_cons z1 fun z3 z4 => o_Subscript z3 fun z5 x z6 => o_Attribute z5 fun b n z7 => o_nil z4 (isSelf b && (n == ("memory" : Str)) && plainE x && plainE y && trE c vars i x && trE c vars e y)
  | .augV v op e, x₀ => o_AugAssign x₀ fun z1 o x z2 => o_Name z1 fun n z3 => v != 0 && isVar vars v n && o == op.op && trE c vars e x
  | .augF f op e, x₀ => o_AugAssign x₀ fun z1 o x z2 => o_Attribute z1 fun b n z3 => isSelf b && f.nm == n && o == op.op && trE c vars e x
  | .ite t a b, x₀ => o_If x₀ fun x l r z1 => (cmpE t || plainT x) && trE c vars t x && trSs a l && trSs b r
  | .ret e, x₀ => o_Return x₀ fun z1 z2 => o_some z1 fun x => trE c vars e x
  | .ret0, x₀ => o_Return x₀ fun z1 z2 => o_non z1 (true)
  | .pass, x₀ => o_Pass x₀ fun z1 => true
noncomputable def trSs : Ss → List Stmt → Bool
  | .nil, [] => true
  | .cons s r, x :: l => trS s x && trSs r l
  | _, _ => false
end
end
section
variable {c : Cls} {vars : List Str}
theorem inv_trE_int {i : Int} {x₀ : PySem.Expr} (h : trE c vars (.int i) x₀ = true) : ∃ j y1 y2, x₀ = (.Constant (.int j) y1 y2) ∧ (i == j) = true := by
  apply o_Constant_elim h; intro z1 z2 z3 h
  apply o_int_elim h; intro j h
  exact ⟨_, _, _, rfl, h⟩
theorem inv_trE_none  {x₀ : PySem.Expr} (h : trE c vars .none x₀ = true) : ∃ y1 y2, x₀ = (.Constant (.none) y1 y2) ∧ (true) = true := by
  apply o_Constant_elim h; intro z1 z2 z3 h
  apply o_none_elim h; intro h
  exact ⟨_, _, rfl, h⟩
theorem inv_trE_var {v : Nat} {x₀ : PySem.Expr} (h : trE c vars (.var v) x₀ = true) : ∃ n y1, x₀ = (.Name n y1) ∧ (isVar vars v n) = true := by
  apply o_Name_elim h; intro n z1 h
  exact ⟨_, _, rfl, h⟩
theorem inv_trE_fld {f : Fld} {x₀ : PySem.Expr} (h : trE c vars (.fld f) x₀ = true) : ∃ b n y1, x₀ = (.Attribute b n y1) ∧ (isSelf b && f.nm == n) = true := by
  apply o_Attribute_elim h; intro b n z1 h
  exact ⟨_, _, _, rfl, h⟩
theorem inv_trE_cst {k : Nat} {x₀ : PySem.Expr} (h : trE c vars (.cst k) x₀ = true) : ∃ b n y1, x₀ = (.Attribute b n y1) ∧ (isSelf b && (match c.csts[k]? with | some x => x.1 == n | Option.none => false)) = true := by
  apply o_Attribute_elim h; intro b n z1 h
  exact ⟨_, _, _, rfl, h⟩
theorem inv_trE_mref {m : Nat} {x₀ : PySem.Expr} (h : trE c vars (.mref m) x₀ = true) : ∃ b n y1, x₀ = (.Attribute b n y1) ∧ (isSelf b && isMeth c m n) = true := by
  apply o_Attribute_elim h; intro b n z1 h
  exact ⟨_, _, _, rfl, h⟩
theorem inv_trE_mem {i : E} {x₀ : PySem.Expr} (h : trE c vars (.mem i) x₀ = true) : ∃ b n y1 e y2, x₀ = (.Subscript (.Attribute b n y1) e y2) ∧ (isSelf b && (n == ("memory" : Str)) && plainE e && trE c vars i e) = true := by
  apply o_Subscript_elim h; intro z1 e z2 h
  apply o_Attribute_elim h; intro b n z3 h
  exact ⟨_, _, _, _, _, rfl, h⟩
theorem inv_trE_tab {t : Nat} {i : E} {x₀ : PySem.Expr} (h : trE c vars (.tab t i) x₀ = true) : ∃ b n y1 e y2, x₀ = (.Subscript (.Attribute b n y1) e y2) ∧ (isSelf b && (match c.tabs[t]? with | some x => x.1 == n | Option.none => false) && plainE e && trE c vars i e) = true := by
  apply o_Subscript_elim h; intro z1 e z2 h
  apply o_Attribute_elim h; intro b n z3 h
  exact ⟨_, _, _, _, _, rfl, h⟩
theorem inv_trE_bin {op : BOp} {a : E} {b : E} {x₀ : PySem.Expr} (h : trE c vars (.bin op a b) x₀ = true) : ∃ l o r y1, x₀ = (.BinOp l o r y1) ∧ (o == op.op && trE c vars a l && trE c vars b r) = true := by
  apply o_BinOp_elim h; intro l o r z1 h
  exact ⟨_, _, _, _, rfl, h⟩
theorem inv_trE_inv {a : E} {x₀ : PySem.Expr} (h : trE c vars (.inv a) x₀ = true) : ∃ o e y1, x₀ = (.UnaryOp o e y1) ∧ (o == .Invert && trE c vars a e) = true := by
  apply o_UnaryOp_elim h; intro o e z1 h
  exact ⟨_, _, _, rfl, h⟩
theorem inv_trE_cmp {op : COp} {a : E} {b : E} {x₀ : PySem.Expr} (h : trE c vars (.cmp op a b) x₀ = true) : ∃ l o r y1, x₀ = (.Compare l (o :: []) (r :: []) y1) ∧ (o == op.op && plainE r && trE c vars a l && trE c vars b r) = true := by
  apply o_Compare_elim h; intro l z1 z2 z3 h
  apply o_cons_elim h; intro o z4 h
  apply o_nil_elim h; intro h
  apply o_cons_elim h; intro r z5 h
  apply o_nil_elim h; intro h
  exact ⟨_, _, _, _, rfl, h⟩
theorem inv_trE_isNone {v : Nat} {x₀ : PySem.Expr} (h : trE c vars (.isNone v) x₀ = true) : ∃ n y1 o y2 y3 y4, x₀ = (.Compare (.Name n y1) (o :: []) ((.Constant (.none) y2 y3) :: []) y4) ∧ (o == .Is && isVar vars v n) = true := by
  apply o_Compare_elim h; intro z1 z2 z3 z4 h
  apply o_Name_elim h; intro n z5 h
  apply o_cons_elim h; intro o z6 h
  apply o_nil_elim h; intro h
  apply o_cons_elim h; intro z7 z8 h
  apply o_Constant_elim h; intro z9 z10 z11 h
  apply o_none_elim h; intro h
  apply o_nil_elim h; intro h
  exact ⟨_, _, _, _, _, _, rfl, h⟩
theorem inv_trE_isNoneF {f : Fld} {x₀ : PySem.Expr} (h : trE c vars (.isNoneF f) x₀ = true) : ∃ b n y1 o y2 y3 y4, x₀ = (.Compare (.Attribute b n y1) (o :: []) ((.Constant (.none) y2 y3) :: []) y4) ∧ (o == .Is && isSelf b && f.nm == n) = true := by
  apply o_Compare_elim h; intro z1 z2 z3 z4 h
  apply o_Attribute_elim h; intro b n z5 h
  apply o_cons_elim h; intro o z6 h
  apply o_nil_elim h; intro h
  apply o_cons_elim h; intro z7 z8 h
  apply o_Constant_elim h; intro z9 z10 z11 h
  apply o_none_elim h; intro h
  apply o_nil_elim h; intro h
  exact ⟨_, _, _, _, _, _, _, rfl, h⟩
theorem inv_trE_txt  {x₀ : PySem.Expr} (h : trE c vars .txt x₀ = true) : ∃ y1 y2 y3, x₀ = (.Constant (.str y1) y2 y3) ∧ (true) = true := by
  apply o_Constant_elim h; intro z1 z2 z3 h
  apply o_str_elim h; intro z4 h
  exact ⟨_, _, _, rfl, h⟩
theorem inv_trE_bool {b : Bool} {x₀ : PySem.Expr} (h : trE c vars (.bool b) x₀ = true) : ∃ d y1 y2, x₀ = (.Constant (.bool d) y1 y2) ∧ (b == d) = true := by
  apply o_Constant_elim h; intro z1 z2 z3 h
  apply o_bool_elim h; intro d h
  exact ⟨_, _, _, rfl, h⟩
theorem inv_trE_call0 {m : Nat} {x₀ : PySem.Expr} (h : trE c vars (.call0 m) x₀ = true) : ∃ b n ap p, x₀ = (.Call (.Attribute b n ap) [] [] p) ∧ (isSelf b && isMeth c m n && ap.endLine == p.line) = true := by
  apply o_Call_elim h; intro z1 z2 z3 p h
  apply o_Attribute_elim h; intro b n ap h
  apply o_nil_elim h; intro h
  apply o_nil_elim h; intro h
  exact ⟨_, _, _, _, rfl, h⟩
theorem inv_trE_call1 {m : Nat} {a : E} {x₀ : PySem.Expr} (h : trE c vars (.call1 m a) x₀ = true) : ∃ b n ap e p, x₀ = (.Call (.Attribute b n ap) (e :: []) [] p) ∧ (isSelf b && isMeth c m n && ap.endLine == p.line && plainE e && trE c vars a e) = true := by
  apply o_Call_elim h; intro z1 z2 z3 p h
  apply o_Attribute_elim h; intro b n ap h
  apply o_cons_elim h; intro e z4 h
  apply o_nil_elim h; intro h
  apply o_nil_elim h; intro h
  exact ⟨_, _, _, _, _, rfl, h⟩
theorem inv_trE_call2 {m : Nat} {a : E} {d : E} {x₀ : PySem.Expr} (h : trE c vars (.call2 m a d) x₀ = true) : ∃ b n ap e f p, x₀ = (.Call (.Attribute b n ap) (e :: (f :: [])) [] p) ∧ (isSelf b && isMeth c m n && ap.endLine == p.line && plainE e && plainE f && trE c vars a e && trE c vars d f) = true := by
  apply o_Call_elim h; intro z1 z2 z3 p h
  apply o_Attribute_elim h; intro b n ap h
  apply o_cons_elim h; intro e z4 h
  apply o_cons_elim h; intro f z5 h
  apply o_nil_elim h; intro h
  apply o_nil_elim h; intro h
  exact ⟨_, _, _, _, _, _, rfl, h⟩
theorem inv_trE_callV {v : Nat} {x₀ : PySem.Expr} (h : trE c vars (.callV v) x₀ = true) : ∃ n y1 y2, x₀ = (.Call (.Name n y1) [] [] y2) ∧ (isVar vars v n) = true := by
  apply o_Call_elim h; intro z1 z2 z3 z4 h
  apply o_Name_elim h; intro n z5 h
  apply o_nil_elim h; intro h
  apply o_nil_elim h; intro h
  exact ⟨_, _, _, rfl, h⟩
theorem inv_trE_callT {i : E} {x₀ : PySem.Expr} (h : trE c vars (.callT i) x₀ = true) : ∃ b n y1 e y2 s y3 y4, x₀ = (.Call (.Subscript (.Attribute b n y1) e y2) ((.Name s y3) :: []) [] y4) ∧ (isSelf b && (n == c.instrN) && plainE e && trE c vars i e && (s == ("self" : Str))) = true := by
  apply o_Call_elim h; intro z1 z2 z3 z4 h
  apply o_Subscript_elim h; intro z5 e z6 h
  apply o_Attribute_elim h; intro b n z7 h
  apply o_cons_elim h; intro z8 z9 h
  apply o_Name_elim h; intro s z10 h
  apply o_nil_elim h; intro h
  apply o_nil_elim h; intro h
  exact ⟨_, _, _, _, _, _, _, _, rfl, h⟩
theorem inv_trS_expr {e : E} {x₀ : Stmt} (h : trS c vars (.expr e) x₀ = true) : ∃ x y1, x₀ = (.Expr x y1) ∧ (plainE x && trE c vars e x) = true := by
  apply o_Expr_elim h; intro x z1 h
  exact ⟨_, _, rfl, h⟩
theorem inv_trS_asgV {v : Nat} {e : E} {x₀ : Stmt} (h : trS c vars (.asgV v e) x₀ = true) : ∃ n y1 x y2, x₀ = (.Assign ((.Name n y1) :: []) x y2) ∧ (v != 0 && isVar vars v n && plainE x && trE c vars e x) = true := by
  apply o_Assign_elim h; intro z1 x z2 h
  apply o_cons_elim h; intro z3 z4 h
  apply o_Name_elim h; intro n z5 h
  apply o_nil_elim h; intro h
  exact ⟨_, _, _, _, rfl, h⟩
theorem inv_trS_asgF {f : Fld} {e : E} {x₀ : Stmt} (h : trS c vars (.asgF f e) x₀ = true) : ∃ b n y1 x y2, x₀ = (.Assign ((.Attribute b n y1) :: []) x y2) ∧ (isSelf b && f.nm == n && plainE x && trE c vars e x) = true := by
  apply o_Assign_elim h; intro z1 x z2 h
  apply o_cons_elim h; intro z3 z4 h
  apply o_Attribute_elim h; intro b n z5 h
  apply o_nil_elim h; intro h
  exact ⟨_, _, _, _, _, rfl, h⟩
theorem inv_trS_asgM {i : E} {e : E} {x₀ : Stmt} (h : trS c vars (.asgM i e) x₀ = true) : ∃ b n y1 x y2 y y3, x₀ = (.Assign ((.Subscript (.Attribute b n y1) x y2) :: []) y y3) ∧ (isSelf b && (n == ("memory" : Str)) && plainE x && plainE y && trE c vars i x && trE c vars e y) = true := by
  apply o_Assign_elim h; intro z1 y z2 h
  apply o_cons_elim h; intro z3 z4 h
  apply o_Subscript_elim h; intro z5 x z6 h
  apply o_Attribute_elim h; intro b n z7 h
  apply o_nil_elim h; intro h
  exact ⟨_, _, _, _, _, _, _, rfl, h⟩
theorem inv_trS_augV {v : Nat} {op : BOp} {e : E} {x₀ : Stmt} (h : trS c vars (.augV v op e) x₀ = true) : ∃ n y1 o x y2, x₀ = (.AugAssign (.Name n y1) o x y2) ∧ (v != 0 && isVar vars v n && o == op.op && trE c vars e x) = true := by
  apply o_AugAssign_elim h; intro z1 o x z2 h
  apply o_Name_elim h; intro n z3 h
  exact ⟨_, _, _, _, _, rfl, h⟩
theorem inv_trS_augF {f : Fld} {op : BOp} {e : E} {x₀ : Stmt} (h : trS c vars (.augF f op e) x₀ = true) : ∃ b n y1 o x y2, x₀ = (.AugAssign (.Attribute b n y1) o x y2) ∧ (isSelf b && f.nm == n && o == op.op && trE c vars e x) = true := by
  apply o_AugAssign_elim h; intro z1 o x z2 h
  apply o_Attribute_elim h; intro b n z3 h
  exact ⟨_, _, _, _, _, _, rfl, h⟩
theorem inv_trS_ite {t : E} {a : Ss} {b : Ss} {x₀ : Stmt} (h : trS c vars (.ite t a b) x₀ = true) : ∃ x l r y1, x₀ = (.If x l r y1) ∧ ((cmpE t || plainT x) && trE c vars t x && trSs c vars a l && trSs c vars b r) = true := by
  apply o_If_elim h; intro x l r z1 h
  exact ⟨_, _, _, _, rfl, h⟩
theorem inv_trS_ret {e : E} {x₀ : Stmt} (h : trS c vars (.ret e) x₀ = true) : ∃ x y1, x₀ = (.Return (some x) y1) ∧ (trE c vars e x) = true := by
  apply o_Return_elim h; intro z1 z2 h
  apply o_some_elim h; intro x h
  exact ⟨_, _, rfl, h⟩
theorem inv_trS_ret0  {x₀ : Stmt} (h : trS c vars .ret0 x₀ = true) : ∃ y1, x₀ = (.Return Option.none y1) ∧ (true) = true := by
  apply o_Return_elim h; intro z1 z2 h
  apply o_non_elim h; intro h
  exact ⟨_, rfl, h⟩
theorem inv_trS_pass  {x₀ : Stmt} (h : trS c vars .pass x₀ = true) : ∃ y1, x₀ = (.Pass y1) ∧ (true) = true := by
  apply o_Pass_elim h; intro z1 h
  exact ⟨_, rfl, h⟩
end
end Mine

end
section
open PySem PySem.W PyProof.Rows
set_option maxRecDepth 100000
set_option maxHeartbeats 1000000
namespace Mine
section
variable {prog : Program} {w : World} {A : Around} {E : Value → Shared → Prop} {s : Shared}
theorem set_plainL {l : Addr} {items : Array Value} {k : Int} {t : Tok} {v : Value} {Q : Unit → Shared → Prop} (hl : PlainL s.heap l items)
    (h0 : 0 ≤ k) (hfit : k < 2 ^ 63) (hn : k < items.size)
    (hQ : ∀ h', PlainL h' l (items.setIfInBounds k.toNat v) → Heap.SameBut l s.heap h' → Q () { s with heap := h' }) :
    wpAny (model prog w) A (setItem (.ref l) (.int k t) v) Q E s := by
  obtain ⟨o, n, ho, hc, hdn, hd⟩ := id hl
  have hT : s.TypeIs (.ref l) "list" := hl.isList.typeIs
  unfold setItem
  try with_reducible refine wpAny_holding ?_
  first | refine wpAny_bind (wpAny_pure ?_) | skip
  refine wpAny_bind (wpAny_sequenceKey hT (by decide) ?_)
  refine wpAny_bind (wpAny_callSpecial?_slot (name := Str.ofString "__setitem__") hT slot_list_setitem
    (wpAny_call_entry slot_list_setitem hT entry_list_setitem ?_ (args_list_setitem _ _ _)))
  show wpAny _ _ (Builtin.List.listSubscript? (.int k t) >>= _) _ _ s
  refine wpAny_bind (wpAny_listSubscript_int (fitsIndex_of h0 hfit) ?_)
  clear hfit
  obtain ⟨j, rfl⟩ := Int.eq_ofNat_of_zero_le h0
  have hj : j < items.size := by lia
  have hx' : items[j]? = some items[j] := Array.getElem?_eq_getElem hj
  show wpAny _ _ ((seqItemAt l j >>= fun r => pure (r.map (j, ·))) >>= _) _ _ s
  refine wpAny_bind (wpAny_bind (wpAny_seqItemAt ho hd (wpAny_pure ?_)))
  rw [hx']
  show wpAny _ _ (setSeqItemAt l j v >>= _) _ _ s
  obtain ⟨n', hd'⟩ := Obj.data_mapSeq hd (·.setIfInBounds j v)
  have hfin : PlainL (s.heap.update l (Obj.mapSeq (·.setIfInBounds j v))) l (items.setIfInBounds j v) := by
    refine ⟨_, n', Heap.get?_update_self _ ho (Obj.isFreed_of_seq hd'), (Obj.cls_mapSeq ..).trans hc, ?_, hd'⟩
    obtain ⟨c, d, dt, sl⟩ := o
    subst hd
    exact hdn
  refine wpAny_bind (wpAny_setSeqItemAt ho hd ?_)
  first
    | exact wpAny_bind (wpAny_pure (wpAny_pure ⟨.none, rfl, wpAny_pure (hQ _ hfin (Heap.SameBut.update ..))⟩))
    | exact wpAny_pure ⟨.none, rfl, wpAny_pure (hQ _ hfin (Heap.SameBut.update ..))⟩
end
end Mine

end
section
open PySem PySem.W PyProof.Rows
set_option maxRecDepth 100000
set_option maxHeartbeats 1000000
namespace Mine
section
variable {prog : Program} {w : World} {A : Around} {E : Value → Shared → Prop} {s : Shared}
noncomputable def slPut (items js : Array Value) (lo hi : Option Int) : Array Value :=
  items.extract 0 (sliceBounds lo hi none items.size).1.toNat ++ js ++ items.extract (max (sliceBounds lo hi none items.size).1 (sliceBounds lo hi none items.size).2.1).toNat items.size
theorem setSlice_plain {l sl b : Addr} {items js : Array Value} {vl vu : Value} {lo hi : Option Int} {Q : Unit → Shared → Prop} (hl : PlainL s.heap l items) (hb : s.heap.IsList b js) (hlb : l ≠ b)
    (hs : s.heap.IsSliceOf sl vl vu .none) (pl : IsPart vl lo) (pu : IsPart vu hi) (hsz : items.size + js.size ≤ sizeLine)
    (hQ : ∀ h', PlainL h' l (slPut items js lo hi) → Heap.SameBut l s.heap h' → Q () { s with heap := h' }) :
    wpAny (model prog w) A (setItem (.ref l) (.ref sl) (.ref b)) Q E s := by
  refine Classical.byContradiction fun hHid => ?_
  obtain ⟨o, n, ho, hc, hdn, hd⟩ := id hl
  obtain ⟨ob, hob, hcb, nb, hdb⟩ := id hb
  obtain ⟨os, hos, hcs, hds⟩ := id hs
  have hT : s.TypeIs (.ref l) "list" := hl.isList.typeIs
  have hTs : s.TypeIs (.ref sl) "slice" := ⟨os, hos, hcs⟩
  refine hHid ?_
  clear hHid
  unfold setItem
  try with_reducible refine wpAny_holding ?_
  first | refine wpAny_bind (wpAny_pure ?_) | skip
  refine wpAny_bind (wpAny_sequenceKey hT (by decide) ?_)
  refine wpAny_bind (wpAny_callSpecial?_slot (name := Str.ofString "__setitem__") hT slot_list_setitem
    (wpAny_call_entry slot_list_setitem hT entry_list_setitem ?_ (args_list_setitem _ _ _)))
  show wpAny _ _ (Builtin.List.listSubscript? (.ref sl) >>= _) _ _ s
  refine wpAny_bind ?_
  unfold Builtin.List.listSubscript?
  refine wpAny_bind (wpAny_specialOf hTs slice_no_index ?_)
  simp only [Option.isNone_none, if_true]
  refine wpAny_pure ?_
  show wpAny _ _ (typeOf (.ref sl) >>= _) _ _ s
  refine wpAny_bind (wpAny_typeOf hTs ?_)
  rw [if_neg (by decide)]
  rw [listSliceParts_eq]
  have hstep : ¬ ((rawPart none == rawInt 0) = true) := Bool.false_ne_true
  refine wpAny_bind (wpAny_bind (wpAny_field hos hds (x := .none) rfl (wpAny_bind (wpAny_listPart .none ?_))))
  rw [if_neg hstep]
  refine wpAny_bind (wpAny_field hos hds (x := vl) rfl (wpAny_bind (wpAny_listPart pl ?_)))
  refine wpAny_bind (wpAny_field hos hds (x := vu) rfl (wpAny_bind (wpAny_listPart pu (wpAny_pure ?_))))
  have hsr : ¬ (Builtin.List.listSameRef (.ref l) (.ref b) = true) := fun q => hlb (by
    have q : (l == b) = true := q
    exact beq_iff_eq.mp q)
  have items_of : ∀ {a : Addr} {o : Obj} {its : Array Value} {n : Nat} {Q : Array Value → Shared → Prop} {E : Value → Shared → Prop} {A : Around}, s.heap.get? a = some o → o.data = .seq its n → Q its s → wpAny (model prog w) A (Builtin.List.listItems (.ref a)) Q E s := fun ho hd h => by
    unfold Builtin.List.listItems
    exact wpAny_bind (wpAny_seqItems ho hd (wpAny_pure h))
  rw [if_neg hsr]
  refine wpAny_bind (m := Builtin.List.listAllItems (.ref b) _) ?_
  unfold Builtin.List.listAllItems
  refine wpAny_bind (wpAny_typeOf hb.typeIs ?_)
  rw [if_pos (by decide)]
  refine items_of hob hdb ?_
  refine wpAny_bind (items_of ho hd ?_)
  refine wpAny_bind (wpAny_of_eq (sliceIndices_raw lo hi none items.size (by simp)) ?_)
  have h1 : ((sliceBounds lo hi none items.size).2.snd == 1) = true := rfl
  rw [if_pos h1]
  refine wpAny_bind (wpAny_rule ?_)
  have hlong : ¬ (Builtin.List.listTooLong (items.size + js.size) = true) := fun q => absurd (of_decide_eq_true q) (Nat.not_lt.mpr hsz)
  rw [if_neg hlong]
  obtain ⟨n', hd'⟩ := Obj.data_mapSeq hd (fun xs => xs.extract 0 (sliceBounds lo hi none items.size).1.toNat ++ js ++ xs.extract (max (sliceBounds lo hi none items.size).1 (sliceBounds lo hi none items.size).2.1).toNat xs.size)
  have hfin : PlainL (s.heap.update l (Obj.mapSeq fun xs => xs.extract 0 (sliceBounds lo hi none items.size).1.toNat ++ js ++ xs.extract (max (sliceBounds lo hi none items.size).1 (sliceBounds lo hi none items.size).2.1).toNat xs.size)) l (slPut items js lo hi) := by
    refine ⟨_, n', Heap.get?_update_self _ ho (Obj.isFreed_of_seq hd'), (Obj.cls_mapSeq ..).trans hc, ?_, hd'⟩
    obtain ⟨c, d, dt, sl⟩ := o
    subst hd
    exact hdn
  have hsz2 : (items.extract 0 (sliceBounds lo hi none items.size).1.toNat ++ js ++ items.extract (max (sliceBounds lo hi none items.size).1 (sliceBounds lo hi none items.size).2.1).toNat items.size).size ≤ sizeLine + 1 := by
    simp only [Array.size_append, Array.size_extract]
    have : (sliceBounds lo hi none items.size).1.toNat ≤ (max (sliceBounds lo hi none items.size).1 (sliceBounds lo hi none items.size).2.1).toNat := by lia
    lia
  refine wpAny_bind (wpAny_updateSeq ho hd ?_ (by lia) hsz2)
  refine wpAny_bind (wpAny_letGo ?_)
  first
    | exact wpAny_bind (wpAny_pure (wpAny_pure ⟨.none, rfl, wpAny_pure (hQ _ hfin (Heap.SameBut.update ..))⟩))
    | exact wpAny_pure ⟨.none, rfl, wpAny_pure (hQ _ hfin (Heap.SameBut.update ..))⟩
theorem slPut_list {items js : Array Value} {lo hi : Option Int} : (slPut items js lo hi).toList = items.toList.take (lo.elim 0 (clipAt items.size)) ++ js.toList ++ items.toList.drop (max (lo.elim 0 (clipAt items.size)) (hi.elim items.size (clipAt items.size))) := by
  have hb : sliceBounds lo hi none items.size = (((lo.elim 0 (clipAt items.size) : Nat) : Int), ((hi.elim items.size (clipAt items.size) : Nat) : Int), 1) := by
    cases lo <;> cases hi <;> simp [sliceBounds, clipAt_cast]
  unfold slPut
  rw [hb]
  simp only [Array.toList_append, Array.toList_extract, Int.toNat_natCast]
  have : (max ((lo.elim 0 (clipAt items.size) : Nat) : Int) ((hi.elim items.size (clipAt items.size) : Nat) : Int)).toNat = max (lo.elim 0 (clipAt items.size)) (hi.elim items.size (clipAt items.size)) := by omega
  rw [this]
  congr 1
  exact List.take_of_length_le (by simp)
end
end Mine

end
section
open PySem PySem.W PyProof.Rows
set_option maxRecDepth 100000
namespace Mine

structure Cx where
  prog : Program
  w : World
  c : Cls
  h₀ : Heap
  K : Frag
  C : Addr
  I : Addr
  D : Addr
  L : Addr
  fnA : Nat → Addr
  tabA : Nat → Addr
  insA : Addr

structure MethOk (x : Cx) (m : Nat) (md : MethD) : Prop where
  find : findIn x.K (.ref x.C) md.nm = some (some (.ref (x.fnA m)))
  notF : ∀ f : Fld, md.nm ≠ f.nm
  cop : copiedNames.contains md.nm = false
  nodup : md.vars.Nodup
  nodbg : ∀ v ∈ md.vars, (v == ("__debug__" : Str)) = false
  npLe : md.np ≤ md.vars.length
  self : md.vars[0]? = some ("self" : Str)
  fd : ∃ fd b, x.K.lookup (x.fnA m) = some ⟨.type "function", none, .func fd, #[]⟩ ∧ fd.body = .stmts b ∧ trSs x.c md.vars md.body b = true ∧ fd.scope.kind = .function ∧
    fd.scope.isGenerator = false ∧ fd.scope.isCoroutine = false ∧ (∀ y ∈ fd.scope.names, y.2 ≠ .cell) ∧ (∀ v ∈ md.vars, fd.scope.names.lookup v = some .local) ∧ codeIn x.K fd.code fd.qualname = true ∧
    ∀ (s : Shared) (vals : List Value), x.K.In s.heap → vals.length = md.np → BindsTo s fd ⟨vals, []⟩ ((md.vars.take md.np).zip vals)

structure Ok (x : Cx) : Prop where
  X : x.K.In x.h₀
  lim : x.h₀.NoLimit
  nD : x.h₀.get? x.D = none
  nL : x.h₀.get? x.L = none
  DL : x.D ≠ x.L
  ga : findIn x.K (.ref x.C) "__getattribute__" = some (some (.builtin "object.__getattribute__"))
  gg : findIn x.K (.ref x.C) "__getattr__" = some none
  sa : findIn x.K (.ref x.C) "__setattr__" = some (some (.builtin "object.__setattr__"))
  hd : hasDictIn x.K x.C = true
  po : plainOver x.K x.C = true
  fld : ∀ f : Fld, findIn x.K (.ref x.C) f.nm = some none
  cst : ∀ (k : Nat) (n : Str) (v : Int), x.c.csts[k]? = some (n, v) → (∃ t, findIn x.K (.ref x.C) n = some (some (.int v t))) ∧ copiedNames.contains n = false ∧ ∀ f : Fld, n ≠ f.nm
  tab : ∀ (k : Nat) (n : Str) (l : List Int), x.c.tabs[k]? = some (n, l) → findIn x.K (.ref x.C) n = some (some (.ref (x.tabA k))) ∧ copiedNames.contains n = false ∧ (∀ f : Fld, n ≠ f.nm) ∧
    ∃ vs, x.K.lookup (x.tabA k) = some { cls := .type "list", data := .seq vs.toArray } ∧ IntsAre vs l
  ins : findIn x.K (.ref x.C) x.c.instrN = some (some (.ref x.insA)) ∧ copiedNames.contains x.c.instrN = false ∧ (∀ f : Fld, x.c.instrN ≠ f.nm) ∧
    x.K.lookup x.insA = some { cls := .type "list", data := .seq (x.c.instr.map fun m => Value.ref (x.fnA m)).toArray }
  meth : ∀ (m : Nat) (md : MethD), x.c.P[m]? = some md → MethOk x m md

noncomputable def Rp (x : Cx) (h : Heap) : V → Value → Prop
  | .int i, v => ∃ t, v = .int i t
  | .bool b, v => v = .bool b
  | .none, v => v = .none
  | .self, v => v = .ref x.I
  | .meth m, v => ∃ a, v = .ref a ∧ h.get? a = some (methodObj (.ref (x.fnA m)) (.ref x.I))
  | .txt, v => ∃ s t, v = .str s t
  | .memr, v => v = .ref x.L
  | .unset, _ => False
noncomputable def FldR (x : Cx) (h : Heap) : V → Option Value → Prop
  | .unset, o => o = none
  | v, o => ∃ y, o = some y ∧ Rp x h v y
theorem FldR.of {x : Cx} {h : Heap} {v : V} {o : Option Value} (hu : v ≠ .unset) : FldR x h v o ↔ ∃ y, o = some y ∧ Rp x h v y := by
  cases v <;> first | exact Iff.rfl | exact absurd rfl hu
theorem FldR.map {x : Cx} {h h' : Heap} {v : V} {o : Option Value} (r : FldR x h v o) (k : ∀ y, Rp x h v y → Rp x h' v y) : FldR x h' v o := by
  by_cases hu : v = .unset
  · subst hu; exact r
  · obtain ⟨y, e, q⟩ := (FldR.of hu).mp r
    exact (FldR.of hu).mpr ⟨y, e, k y q⟩

structure Mr (x : Cx) (σ : M) (h : Heap) : Prop where
  stays : ∀ b o, x.h₀.get? b = some o → h.get? b = some o
  inst : h.get? x.I = some (instObj x.C x.D)
  ns : ∃ m, h.Ns1 x.D m ∧ (∀ f : Fld, FldR x h (σ.get f) (m f.nm)) ∧ ∀ n, (∀ f : Fld, n ≠ f.nm) → m n = none
  mem : ∃ items : Array Value, PlainL h x.L items ∧ IntsAre items.toList σ.mem
  sz : σ.mem.length < 2 ^ 62
structure Lr (x : Cx) (env : Env) (vars : List Str) (ρ : Loc) (h : Heap) : Prop where
  ns : ∃ m, h.Ns env.locals m ∧ ∀ (i : Nat) (n : Str) (v : V), vars[i]? = some n → ρ.at i = some v → ∃ y, m n = some y ∧ Rp x h v y
  nD : env.locals ≠ x.D
  nL : env.locals ≠ x.L
  nI : env.locals ≠ x.I
  nB : x.h₀.get? env.locals = none
  len : ρ.length = vars.length
  self : ρ.at 0 = some .self
structure EnvOk (env : Env) (vars : List Str) : Prop where
  kind : env.scope.kind = .function
  loc : ∀ v ∈ vars, env.kindOf v = some .local
  nodup : vars.Nodup
  nodbg : ∀ v ∈ vars, (v == ("__debug__" : Str)) = false
  self : vars[0]? = some ("self" : Str)

noncomputable def Away (ds : List Addr) (h h' : Heap) : Prop := ∀ b o, h.get? b = some o → b ∉ ds → h'.get? b = some o
theorem Away.rfl' {ds : List Addr} {h : Heap} : Away ds h h := fun _ _ e _ => e
theorem Away.trans {ds : List Addr} {h₁ h₂ h₃ : Heap} (a : Away ds h₁ h₂) (b : Away ds h₂ h₃) : Away ds h₁ h₃ := fun c o e n => b c o (a c o e n) n
theorem Away.mono {ds es : List Addr} {h h' : Heap} (a : Away ds h h') (s : ∀ b, b ∈ ds → b ∈ es) : Away es h h' := fun c o e n => a c o e fun q => n (s c q)
noncomputable def Kp (ds : List Addr) (s s' : Shared) : Prop := ∃ h' t', s' = { s with heap := h', toks := t' } ∧ Away ds s.heap h'
theorem Kp.refl {ds : List Addr} {s : Shared} : Kp ds s s := ⟨s.heap, s.toks, rfl, .rfl'⟩
theorem Kp.trans {ds : List Addr} {s₁ s₂ s₃ : Shared} (a : Kp ds s₁ s₂) (b : Kp ds s₂ s₃) : Kp ds s₁ s₃ := by
  refine Classical.byContradiction fun hHid => ?_
  obtain ⟨h, t, rfl, a⟩ := a
  obtain ⟨h', t', rfl, b⟩ := b
  refine hHid ?_
  clear hHid
  exact ⟨h', t', rfl, a.trans b⟩
theorem Kp.away {ds : List Addr} {s s' : Shared} (k : Kp ds s s') : Away ds s.heap s'.heap := by obtain ⟨_, _, rfl, a⟩ := k; exact a
theorem Kp.mono {ds es : List Addr} {s s' : Shared} (k : Kp ds s s') (h : ∀ b, b ∈ ds → b ∈ es) : Kp es s s' := by obtain ⟨h', t', e, a⟩ := k; exact ⟨h', t', e, a.mono h⟩
theorem Kp.tok {ds : List Addr} {s : Shared} {t : Nat} : Kp ds s { s with toks := t } := ⟨s.heap, t, rfl, .rfl'⟩

section
variable {x : Cx} {σ : M} {h h' : Heap} {env : Env} {vars : List Str} {ρ : Loc}
theorem ns_kind {a : Addr} {m : Str → Option Value} (n : h.Ns a m) : ∃ o es ep, h.get? a = some o ∧ o.data = .dict es ep := by obtain ⟨o, es, ep, e, d, _⟩ := n; exact ⟨o, es, ep, e, d⟩
theorem Mr.ne_meth (R : Mr x σ h) {a : Addr} {f s : Value} (e : h.get? a = some (methodObj f s)) : a ∉ [x.D, x.L] := by
  intro q
  refine Classical.byContradiction fun hHid => ?_
  obtain ⟨m, n, _⟩ := R.ns
  obtain ⟨o, es, ep, e', d⟩ := ns_kind n.ns
  obtain ⟨its, ⟨o2, k, e2, _, _, d2⟩, _⟩ := R.mem
  refine hHid ?_
  clear hHid
  rcases List.mem_cons.mp q with q | q
  · subst q; rw [e] at e'; (injection e' with e'; subst e'); injection d
  · have := List.mem_singleton.mp q; subst this; rw [e] at e2; (injection e2 with e2; subst e2); injection d2
theorem Rp.keeps {v : V} {y : Value} (R : Mr x σ h) (r : Rp x h v y) (k : Away [x.D, x.L] h h') : Rp x h' v y := by
  cases v <;> try exact r
  obtain ⟨a, e, g⟩ := r
  exact ⟨a, e, k a _ g (R.ne_meth g)⟩
theorem ns_keeps {a : Addr} {m : Str → Option Value} {ds : List Addr} (n : h.Ns a m) (k : Away ds h h') (q : a ∉ ds) : h'.Ns a m := by
  obtain ⟨o, es, ep, e, r⟩ := n
  exact ⟨o, es, ep, k a o e q, r⟩
theorem Lr.keeps (R : Mr x σ h) (l : Lr x env vars ρ h) (k : Away [x.D, x.L] h h') : Lr x env vars ρ h' := by
  obtain ⟨⟨m, n, r⟩, nD, nL, nI, nB, ln, sf⟩ := l
  refine ⟨⟨m, ns_keeps n k (by simp [nD, nL]), fun i nm v hi hv => ?_⟩, nD, nL, nI, nB, ln, sf⟩
  obtain ⟨y, e, q⟩ := r i nm v hi hv
  exact ⟨y, e, q.keeps R k⟩
theorem lookIn_ns {a : Addr} {m : Str → Option Value} (n : h.Ns a m) : ∃ o, h.get? a = some o ∧ ∀ name, lookIn name o = some (m name) := by
  obtain ⟨o, es, ep, e, d, sk, f⟩ := n
  refine ⟨o, e, fun name => ?_⟩
  unfold lookIn
  rw [d]
  dsimp only
  have q := f name
  unfold nsFind findBy at q
  rw [← Array.find?_toList] at q
  cases g : es.toList.find? (·.key.isStr name) with
  | some en => rw [g] at q; rw [← q]; rfl
  | none =>
    rw [g] at q
    rw [← q]
    have : es.toList.any (·.refKey) = false := by
      rw [List.any_eq_false]
      intro en hen
      obtain ⟨nm, t, ek⟩ := sk en (Array.mem_toList_iff.mp hen)
      simp [DictEntry.refKey, ek]
    dsimp only
    rw [this]; rfl
theorem Mr.instAt (R : Mr x σ h) : ∃ od, InstAt h x.I (instObj x.C x.D) x.C (some od) ∧ (∀ f : Fld, σ.get f ≠ .unset → ∃ v, lookIn f.nm od = some (some v) ∧ Rp x h (σ.get f) v) ∧ ∀ n, (∀ f : Fld, n ≠ f.nm) → lookIn n od = some none := by
  refine Classical.byContradiction fun hHid => ?_
  obtain ⟨m, n, r, z⟩ := R.ns
  obtain ⟨od, e, l⟩ := lookIn_ns n.ns
  refine hHid ?_
  clear hHid
  refine ⟨od, ⟨R.inst, rfl, rfl, e⟩, fun f hu => ?_, fun n hn => ?_⟩
  · obtain ⟨v, q, rv⟩ := (FldR.of hu).mp (r f)
    exact ⟨v, by rw [l, q], rv⟩
  · rw [l, z n hn]
theorem Rp.handed {v : V} {y : Value} (r : Rp x h v y) : handedIn y = true := by
  cases v <;> first | exact r.elim | (obtain ⟨t, rfl⟩ := r; rfl) | (obtain rfl := r; rfl) | (obtain ⟨a, rfl, _⟩ := r; rfl) | (obtain ⟨s, t, rfl⟩ := r; rfl)
end

section
variable {x : Cx} (O : Ok x) {A : Around} {E' : Value → Shared → Prop} {s : Shared} {σ : M}
include O
theorem X' (R : Mr x σ s.heap) : x.K.In s.heap := fun b o e => R.stays _ _ (O.X b o e)
theorem get_fld (R : Mr x σ s.heap) (f : Fld) (hu : σ.get f ≠ .unset) {ex : Bool} {Q : Value → Shared → Prop} (h : ∀ y, Rp x s.heap (σ.get f) y → Q y { s with toks := s.toks + 1 }) :
    wpAny (model x.prog x.w) A (getAttr (.ref x.I) f.nm ex) Q E' s := by
  refine Classical.byContradiction fun hHid => ?_
  obtain ⟨od, Ia, fl, _⟩ := R.instAt
  obtain ⟨v, lv, rv⟩ := fl f hu
  refine hHid ?_
  clear hHid
  exact get_value (X' O R) Ia O.ga (findObj_own O.hd (O.fld f) rfl lv) rv.handed (h v rv)
theorem get_cst (R : Mr x σ s.heap) {k : Nat} {n : Str} {v : Int} (hk : x.c.csts[k]? = some (n, v)) {ex : Bool} {Q : Value → Shared → Prop} (h : ∀ t, Q (.int v t) { s with toks := s.toks + 1 }) :
    wpAny (model x.prog x.w) A (getAttr (.ref x.I) n ex) Q E' s := by
  refine Classical.byContradiction fun hHid => ?_
  obtain ⟨od, Ia, _, no⟩ := R.instAt
  obtain ⟨⟨t, ft⟩, cp, nf⟩ := O.cst k n v hk
  refine hHid ?_
  clear hHid
  refine get_value (v := .int v t) (X' O R) Ia O.ga (findObj_cls O.hd ft ?_ rfl cp (no n nf)) rfl (h t)
  show fastLookup "int" "__get__" = some none
  decide +kernel
theorem get_lst (R : Mr x σ s.heap) {n : Str} {a : Addr} {vs : List Value} (ha : findIn x.K (.ref x.C) n = some (some (.ref a))) (hk : x.K.lookup a = some { cls := .type "list", data := .seq vs.toArray }) (cp : copiedNames.contains n = false) (nf : ∀ f : Fld, n ≠ f.nm)
    {ex : Bool} {Q : Value → Shared → Prop} (h : Q (.ref a) { s with toks := s.toks + 1 }) : wpAny (model x.prog x.w) A (getAttr (.ref x.I) n ex) Q E' s := by
  obtain ⟨od, Ia, _, no⟩ := R.instAt
  refine get_value (v := .ref a) (X' O R) Ia O.ga (findObj_cls O.hd ha ?_ rfl cp (no n nf)) rfl h
  show ((x.K.lookup a).map (·.cls)).bind (fun ty => findIn x.K ty "__get__") = some none
  rw [hk]
  show fastLookup "list" "__get__" = some none
  decide +kernel
omit O in
theorem fn_special {f : Addr} {fd : FuncData} (hk : x.K.lookup f = some ⟨.type "function", none, .func fd, #[]⟩) : typeIn x.K (.ref f) = some (.type "function") ∧ specialIn x.K (.ref f) "__get__" = some (some (.builtin "function.__get__")) ∧ takesIn x.K (.ref f) = some false := by
  have t : typeIn x.K (.ref f) = some (.type "function") := by show (x.K.lookup f).map (·.cls) = _; rw [hk]; rfl
  have sp : ∀ n, specialIn x.K (.ref f) n = fastLookup "function" n := fun n => by unfold specialIn; rw [t]; rfl
  refine ⟨t, ?_, ?_⟩
  · rw [sp]; decide +kernel
  · unfold takesIn
    rw [sp, sp]
    decide +kernel
theorem get_meth (R : Mr x σ s.heap) {m : Nat} {md : MethD} (hm : x.c.P[m]? = some md) {ex : Bool} {Q : Value → Shared → Prop}
    (h : Q (.ref s.heap.objs.size) { s with heap := s.heap.push (methodObj (.ref (x.fnA m)) (.ref x.I)), toks := s.toks + 1 }) : wpAny (model x.prog x.w) A (getAttr (.ref x.I) md.nm ex) Q E' s := by
  refine Classical.byContradiction fun hHid => ?_
  obtain ⟨od, Ia, _, no⟩ := R.instAt
  have mo := O.meth m md hm
  obtain ⟨fd, b, hk, _⟩ := mo.fd
  obtain ⟨t, g, tk⟩ := fn_special hk
  refine hHid ?_
  clear hHid
  refine get_bind (X' O R) Ia O.ga (findObj_fn O.hd mo.find g tk mo.cop (no _ mo.notF)) O.gg ?_
  exact wpAny_call (fn_get (s := { s with toks := s.toks + 1 }) (X' O R) t (handed_on rfl h))
theorem meth_of (R : Mr x σ s.heap) {m : Nat} {md : MethD} (hm : x.c.P[m]? = some md) {pl : Sem Bool} {Q : Value × List Value → Shared → Prop} (h : Q (.ref (x.fnA m), [.ref x.I]) s) :
    wpAny (model x.prog x.w) A (getMethod (.ref x.I) md.nm pl) Q E' s := by
  refine Classical.byContradiction fun hHid => ?_
  obtain ⟨od, Ia, _, no⟩ := R.instAt
  have mo := O.meth m md hm
  obtain ⟨fd, b, hk, _⟩ := mo.fd
  obtain ⟨t, g, tk⟩ := fn_special hk
  refine hHid ?_
  clear hHid
  exact method_fn (X' O R) Ia O.ga O.gg mo.find t (by show (lookIn md.nm od).map (·.isSome) = some false; rw [no _ mo.notF]; rfl) h
omit O in
theorem fields_within {m : Str → Option Value} (z : ∀ n, (∀ f : Fld, n ≠ f.nm) → m n = none) : Within m (Fld.all.map Fld.nm) := fun y hy => by
  apply Classical.byContradiction
  intro q
  exact hy (z y fun f e => q (List.mem_map.mpr ⟨f, Fld.mem_all f, e.symm⟩))
theorem set_fld (R : Mr x σ s.heap) {f : Fld} {v : V} {y : Value} {σ' : M} (hs : σ.set f v = some σ') (hnu : v ≠ .unset) (hv : ∀ h, Rp x h v y) {Q : Unit → Shared → Prop}
    (h : ∀ s', Mr x σ' s'.heap → Kp [x.D, x.L] s s' → Away [x.D] s.heap s'.heap → Q () s') : wpAny (model x.prog x.w) A (setAttr (.ref x.I) f.nm y) Q E' s := by
  refine Classical.byContradiction fun hHid => ?_
  obtain ⟨od, Ia, fl, _⟩ := R.instAt
  obtain ⟨m, n, r, z⟩ := R.ns
  refine hHid ?_
  clear hHid
  refine set_plain (X' O R) Ia O.sa ?_
  refine osa_open (X' O R) (s := { s with toks := s.toks + 1 }) Ia O.po (r := none) (by unfold takerIn; rw [O.fld f]; rfl) fun b => ?_
  obtain ⟨cd, hc, hd'⟩ := any_some O.hd
  refine wpAny_bind (wpAny_pure (wpAny_bind (wpAny_bind (wpAny_loadPart R.inst (wpAny_bind (Looks.here (s := { s with toks := s.toks + 1 }) (looks_clsIn (X' O R) hc) ?_))))))
  rw [hd']
  refine wpAny_pure (a := some x.D) (wpAny_bind (wpAny_pure (wpAny_bind ?_)))
  refine wpAny_nsSet1 (s := { s with toks := s.toks + 1 }) n fun h' n' sb => ?_
  have ok : ∀ k, k ≠ x.D → h'.get? k = s.heap.get? k := fun k q => sb.2 k q
  have nm : ∀ g : Fld, (if g.nm = f.nm then some y else m g.nm) = if g = f then some y else m g.nm := fun g => by
    by_cases e : g = f
    · subst e; simp
    · rw [if_neg e, if_neg fun q => e (Fld.nm_inj _ _ q)]
  have z' : ∀ n, (∀ f : Fld, n ≠ f.nm) → (if n = f.nm then some y else m n) = none := fun n hn => by rw [if_neg (hn f)]; exact z n hn
  obtain ⟨o', es', ep', e', d', c'⟩ := n'.count (fields_within z')
  obtain ⟨gm, gs⟩ := M.get_set hs
  have aw : Away [x.D] s.heap h' := fun b o e q => by rw [ok b (by simpa using q)]; exact e
  have R' : Mr x σ' h' := by
    refine ⟨fun b o e => ?_, ?_, ⟨_, n', fun g => ?_, z'⟩, ?_, by rw [gm]; exact R.sz⟩
    · rw [ok b fun q => by rw [q, O.nD] at e; cases e]; exact R.stays b o e
    · rw [ok x.I fun q => ?_]; exact R.inst
      obtain ⟨o, es, ep, e, d⟩ := ns_kind n.ns
      rw [← q, R.inst] at e; (injection e with e; subst e); injection d
    · rw [nm, gs g]
      by_cases e : g = f
      · rw [if_pos e, if_pos e]; exact (FldR.of hnu).mpr ⟨y, rfl, hv _⟩
      · rw [if_neg e, if_neg e]
        exact (r g).map fun u ru => ru.keeps R (aw.mono fun b hb => by simp at hb; simp [hb])
    · rw [gm]
      obtain ⟨its, ⟨o, k, e, cl, dn, d⟩, ia⟩ := R.mem
      exact ⟨its, ⟨o, k, by rw [ok x.L (Ne.symm O.DL)]; exact e, cl, dn, d⟩, ia⟩
  refine wpAny_bind (wpAny_lookBehind e' (by rw [d']; exact pastItsLine_dict (Nat.le_trans c' (by rw [sizeLine_eq]; decide))) ?_)
  exact wpAny_pure (h _ R' ⟨h', _, rfl, aw.mono fun b hb => by simp at hb; simp [hb]⟩ aw)
end
end Mine

end
section
open PySem PySem.W PyProof.Rows
set_option maxRecDepth 100000
set_option linter.unusedSimpArgs false
namespace Mine
section
variable {c : Cls} {vars : List Str} {ex : PySem.Expr}
theorem isSelf_of {b : PySem.Expr} (h : isSelf b = true) : ∃ p, b = .Name ("self" : Str) p := by
  apply o_Name_elim h; intro n p h
  exact ⟨p, by rw [beq_iff_eq.mp h]⟩
theorem isVar_of {v : Nat} {n : Str} (h : isVar vars v n = true) : vars[v]? = some n := beq_iff_eq.mp h
theorem isMeth_of {m : Nat} {n : Str} (h : isMeth c m n = true) : ∃ md, c.P[m]? = some md ∧ md.nm = n := by
  unfold isMeth at h; split at h
  · rename_i md e; exact ⟨md, e, beq_iff_eq.mp h⟩
  · injection h
theorem tr_int {i : Int} (h : trE c vars (.int i) ex = true) : ∃ k p, ex = .Constant (.int i) k p := by
  replace h := inv_trE_int h
  obtain ⟨_, _, _, rfl, h⟩ := h
  try simp only [Bool.and_eq_true, beq_iff_eq] at h
  subst h; exact ⟨_, _, rfl⟩
theorem tr_none (h : trE c vars .none ex = true) : ∃ k p, ex = .Constant .none k p := by
  replace h := inv_trE_none h
  obtain ⟨_, _, rfl, h⟩ := h
  exact ⟨_, _, rfl⟩
theorem tr_var {v : Nat} (h : trE c vars (.var v) ex = true) : ∃ n p, ex = .Name n p ∧ isVar vars v n = true := by
  replace h := inv_trE_var h
  obtain ⟨_, _, rfl, h⟩ := h
  try simp only [Bool.and_eq_true, beq_iff_eq] at h
  exact ⟨_, _, rfl, h⟩
theorem tr_fld {f : Fld} (h : trE c vars (.fld f) ex = true) : ∃ b p, ex = .Attribute b f.nm p ∧ isSelf b = true := by
  replace h := inv_trE_fld h
  obtain ⟨_, _, _, rfl, h⟩ := h
  try simp only [Bool.and_eq_true, beq_iff_eq] at h
  obtain ⟨h1, rfl⟩ := h; exact ⟨_, _, rfl, h1⟩
theorem tr_cst {k : Nat} (h : trE c vars (.cst k) ex = true) : ∃ b n v p, ex = .Attribute b n p ∧ isSelf b = true ∧ c.csts[k]? = some (n, v) := by
  replace h := inv_trE_cst h
  obtain ⟨_, _, _, rfl, h⟩ := h
  try simp only [Bool.and_eq_true, beq_iff_eq] at h
  obtain ⟨h1, h2⟩ := h
  split at h2
  · rename_i y e; obtain ⟨n, v⟩ := y; obtain rfl : n = _ := beq_iff_eq.mp h2; exact ⟨_, _, v, _, rfl, h1, e⟩
  · injection h2
theorem tr_mref {m : Nat} (h : trE c vars (.mref m) ex = true) : ∃ b n p, ex = .Attribute b n p ∧ isSelf b = true ∧ isMeth c m n = true := by
  replace h := inv_trE_mref h
  obtain ⟨_, _, _, rfl, h⟩ := h
  try simp only [Bool.and_eq_true, beq_iff_eq] at h
  exact ⟨_, _, _, rfl, h.1, h.2⟩
theorem tr_mem {i : E} (h : trE c vars (.mem i) ex = true) : ∃ b p e q, ex = .Subscript (.Attribute b ("memory" : Str) p) e q ∧ isSelf b = true ∧ plainE e = true ∧ trE c vars i e = true := by
  replace h := inv_trE_mem h
  obtain ⟨_, _, _, _, _, rfl, h⟩ := h
  try simp only [Bool.and_eq_true, beq_iff_eq] at h
  obtain ⟨⟨⟨h1, rfl⟩, h2⟩, h3⟩ := h; exact ⟨_, _, _, _, rfl, h1, h2, h3⟩
theorem tr_tab {t : Nat} {i : E} (h : trE c vars (.tab t i) ex = true) : ∃ b n l p e q, ex = .Subscript (.Attribute b n p) e q ∧ isSelf b = true ∧ c.tabs[t]? = some (n, l) ∧ plainE e = true ∧ trE c vars i e = true := by
  replace h := inv_trE_tab h
  obtain ⟨_, _, _, _, _, rfl, h⟩ := h
  try simp only [Bool.and_eq_true, beq_iff_eq] at h
  obtain ⟨⟨⟨h1, h2⟩, h3⟩, h4⟩ := h
  split at h2
  · rename_i y e; obtain ⟨n, v⟩ := y; obtain rfl : n = _ := beq_iff_eq.mp h2; exact ⟨_, _, v, _, _, _, rfl, h1, e, h3, h4⟩
  · injection h2
theorem tr_bin {op : BOp} {a b : E} (h : trE c vars (.bin op a b) ex = true) : ∃ l r p, ex = .BinOp l op.op r p ∧ trE c vars a l = true ∧ trE c vars b r = true := by
  replace h := inv_trE_bin h
  obtain ⟨_, _, _, _, rfl, h⟩ := h
  try simp only [Bool.and_eq_true, beq_iff_eq] at h
  obtain ⟨⟨rfl, h1⟩, h2⟩ := h; exact ⟨_, _, _, rfl, h1, h2⟩
theorem tr_inv {a : E} (h : trE c vars (.inv a) ex = true) : ∃ l p, ex = .UnaryOp .Invert l p ∧ trE c vars a l = true := by
  replace h := inv_trE_inv h
  obtain ⟨_, _, _, rfl, h⟩ := h
  try simp only [Bool.and_eq_true, beq_iff_eq] at h
  obtain ⟨rfl, h1⟩ := h; exact ⟨_, _, rfl, h1⟩
theorem tr_cmp {op : COp} {a b : E} (h : trE c vars (.cmp op a b) ex = true) : ∃ l r p, ex = .Compare l [op.op] [r] p ∧ plainE r = true ∧ trE c vars a l = true ∧ trE c vars b r = true := by
  replace h := inv_trE_cmp h
  obtain ⟨_, _, _, _, rfl, h⟩ := h
  try simp only [Bool.and_eq_true, beq_iff_eq] at h
  obtain ⟨⟨⟨rfl, h0⟩, h1⟩, h2⟩ := h; exact ⟨_, _, _, rfl, h0, h1, h2⟩
theorem tr_isNone {v : Nat} (h : trE c vars (.isNone v) ex = true) : ∃ n p k q p', ex = .Compare (.Name n p) [.Is] [.Constant .none k q] p' ∧ isVar vars v n = true := by
  replace h := inv_trE_isNone h
  obtain ⟨_, _, _, _, _, _, rfl, h⟩ := h
  try simp only [Bool.and_eq_true, beq_iff_eq] at h
  obtain ⟨rfl, h1⟩ := h; exact ⟨_, _, _, _, _, rfl, h1⟩
theorem tr_isNoneF {f : Fld} (h : trE c vars (.isNoneF f) ex = true) : ∃ b p k q p', ex = .Compare (.Attribute b f.nm p) [.Is] [.Constant .none k q] p' ∧ isSelf b = true := by
  replace h := inv_trE_isNoneF h
  obtain ⟨_, _, _, _, _, _, _, rfl, h⟩ := h
  try simp only [Bool.and_eq_true, beq_iff_eq] at h
  obtain ⟨⟨rfl, h1⟩, rfl⟩ := h; exact ⟨_, _, _, _, _, rfl, h1⟩
theorem tr_txt (h : trE c vars .txt ex = true) : ∃ s k p, ex = .Constant (.str s) k p := by
  replace h := inv_trE_txt h
  obtain ⟨_, _, _, rfl, h⟩ := h
  exact ⟨_, _, _, rfl⟩
theorem tr_bool {b : Bool} (h : trE c vars (.bool b) ex = true) : ∃ k p, ex = .Constant (.bool b) k p := by
  replace h := inv_trE_bool h
  obtain ⟨_, _, _, rfl, h⟩ := h
  try simp only [Bool.and_eq_true, beq_iff_eq] at h
  subst h; exact ⟨_, _, rfl⟩
theorem tr_call0 {m : Nat} (h : trE c vars (.call0 m) ex = true) : ∃ b n ap p, ex = .Call (.Attribute b n ap) [] [] p ∧ isSelf b = true ∧ isMeth c m n = true ∧ ap.endLine = p.line := by
  replace h := inv_trE_call0 h
  obtain ⟨_, _, _, _, rfl, h⟩ := h
  try simp only [Bool.and_eq_true, beq_iff_eq] at h
  obtain ⟨⟨h1, h2⟩, h3⟩ := h; exact ⟨_, _, _, _, rfl, h1, h2, h3⟩
theorem tr_call1 {m : Nat} {a : E} (h : trE c vars (.call1 m a) ex = true) : ∃ b n ap e p, ex = .Call (.Attribute b n ap) [e] [] p ∧ isSelf b = true ∧ isMeth c m n = true ∧ ap.endLine = p.line ∧ plainE e = true ∧ trE c vars a e = true := by
  replace h := inv_trE_call1 h
  obtain ⟨_, _, _, _, _, rfl, h⟩ := h
  try simp only [Bool.and_eq_true, beq_iff_eq] at h
  obtain ⟨⟨⟨⟨h1, h2⟩, h3⟩, h4⟩, h5⟩ := h; exact ⟨_, _, _, _, _, rfl, h1, h2, h3, h4, h5⟩
theorem tr_call2 {m : Nat} {a d : E} (h : trE c vars (.call2 m a d) ex = true) : ∃ b n ap e f p, ex = .Call (.Attribute b n ap) [e, f] [] p ∧ isSelf b = true ∧ isMeth c m n = true ∧ ap.endLine = p.line ∧ plainE e = true ∧ plainE f = true ∧ trE c vars a e = true ∧ trE c vars d f = true := by
  replace h := inv_trE_call2 h
  obtain ⟨_, _, _, _, _, _, rfl, h⟩ := h
  try simp only [Bool.and_eq_true, beq_iff_eq] at h
  obtain ⟨⟨⟨⟨⟨⟨h1, h2⟩, h3⟩, h4⟩, h5⟩, h6⟩, h7⟩ := h; exact ⟨_, _, _, _, _, _, rfl, h1, h2, h3, h4, h5, h6, h7⟩
theorem tr_callV {v : Nat} (h : trE c vars (.callV v) ex = true) : ∃ n p q, ex = .Call (.Name n p) [] [] q ∧ isVar vars v n = true := by
  replace h := inv_trE_callV h
  obtain ⟨_, _, _, rfl, h⟩ := h
  try simp only [Bool.and_eq_true, beq_iff_eq] at h
  exact ⟨_, _, _, rfl, h⟩
theorem tr_callT {i : E} (h : trE c vars (.callT i) ex = true) : ∃ b p e q s r, ex = .Call (.Subscript (.Attribute b c.instrN p) e q) [.Name ("self" : Str) s] [] r ∧ isSelf b = true ∧ plainE e = true ∧ trE c vars i e = true := by
  replace h := inv_trE_callT h
  obtain ⟨_, _, _, _, _, _, _, _, rfl, h⟩ := h
  try simp only [Bool.and_eq_true, beq_iff_eq] at h
  obtain ⟨⟨⟨⟨h1, rfl⟩, h2⟩, h3⟩, rfl⟩ := h; exact ⟨_, _, _, _, _, _, rfl, h1, h2, h3⟩
end

inductive Rps (x : Cx) (h : Heap) : List V → List Value → Prop
  | nil : Rps x h [] []
  | cons {v : V} {y : Value} {vs : List V} {ys : List Value} : Rp x h v y → Rps x h vs ys → Rps x h (v :: vs) (y :: ys)
noncomputable def CallOk (x : Cx) (A : Around) (cf : Nat → List V → M → Option (V × M)) : Prop :=
  ∀ (m : Nat) (args : List V) (σ : M) (v : V) (σ' : M), cf m args σ = some (v, σ') → ∀ (s : Shared) (vals : List Value) (R : Result → Shared → Prop), Mr x σ s.heap → Rps x s.heap args vals →
    (∀ y s', Mr x σ' s'.heap → Rp x s'.heap v y → Kp [x.D, x.L] s s' → R (.ok (.ret y)) s') → codeAny (model x.prog x.w) A (.call (.ref (x.fnA m)) ⟨.ref x.I :: vals, []⟩) R s

section
variable {x : Cx} (O : Ok x) {A : Around} {E' : Value → Shared → Prop} {env : Env} {vars : List Str} (EO : EnvOk env vars) {ρ : Loc}
include EO in
theorem load_var {s : Shared} {σ : M} (_R : Mr x σ s.heap) (l : Lr x env vars ρ s.heap) {i : Nat} {n : Str} {p : Pos} {v : V} (hi : vars[i]? = some n) (hv : ρ.at i = some v) {Q : Value → Shared → Prop} (h : ∀ y, Rp x s.heap v y → Q y s) :
    wpAny (model x.prog x.w) A (eval (.Name n p) env) Q E' s := by
  refine Classical.byContradiction fun hHid => ?_
  obtain ⟨m, ns, r⟩ := l.ns
  obtain ⟨y, e, ry⟩ := r i n v hi hv
  have mem : n ∈ vars := List.mem_of_getElem? hi
  refine hHid ?_
  clear hHid
  exact wpAny_Name (wpAny_loadName_local EO.kind (EO.loc n mem) ns e (h y ry)) (EO.nodbg n mem)
include EO in
theorem load_self {s : Shared} {σ : M} (R : Mr x σ s.heap) (l : Lr x env vars ρ s.heap) {p : Pos} {Q : Value → Shared → Prop} (h : Q (.ref x.I) s) : wpAny (model x.prog x.w) A (eval (.Name ("self" : Str) p) env) Q E' s :=
  load_var EO R l EO.self l.self fun y r => by obtain rfl := r; exact h
theorem BOp.binary {op : BOp} {s : Shared} {a b r : Int} {t u : Tok} (e : op.ev a b = some r) {Q : Value → Shared → Prop} (h : Q (.int r s.toks) { s with toks := s.toks + 1 }) : wpAny (model x.prog x.w) A (binaryOp op.op (.int a t) (.int b u)) Q E' s := by
  cases op <;> simp only [BOp.ev, Option.some.injEq] at e
  · subst e; exact add_int h
  · subst e; exact sub_int h
  · subst e; exact and_int h
  · subst e; exact or_int h
  · subst e; exact xor_int h
  · split at e
    · rename_i q; (injection e with e; subst e); exact lshift_int_small q.1 (by omega) q.2.2 h
    · injection e
  · split at e
    · rename_i q; (injection e with e; subst e); exact rshift_int q h
    · injection e
theorem BOp.inplace {op : BOp} {s : Shared} {a b r : Int} {t u : Tok} (e : op.ev a b = some r) {Q : Value → Shared → Prop} (h : Q (.int r s.toks) { s with toks := s.toks + 1 }) : wpAny (model x.prog x.w) A (inplaceOp op.op (.int a t) (.int b u)) Q E' s := by
  cases op <;> simp only [BOp.ev, Option.some.injEq] at e
  · subst e; exact PySem.P.iadd_int h
  · subst e; exact PySem.P.isub_int h
  · subst e; exact iand_int h
  · subst e; exact ior_int h
  · subst e; exact ixor_int h
  · split at e
    · rename_i q; (injection e with e; subst e); exact ilshift_int_small q.1 (by omega) q.2.2 h
    · injection e
  · split at e
    · rename_i q; (injection e with e; subst e); exact irshift_int q h
    · injection e
theorem COp.compare {op : COp} {s : Shared} {a b : Int} {t u : Tok} {Q : Value → Shared → Prop} (h : Q (.bool (op.ev a b)) s) : wpAny (model x.prog x.w) A (compareOp op.op (.int a t) (.int b u)) Q E' s := by
  cases op
  · exact PyProof.Rows.eq_int h
  · exact PyProof.Rows.ne_int h
  · exact PySem.P.lt_int h
  · exact PySem.P.le_int h
  · exact PySem.P.gt_int h
  · exact PySem.P.ge_int h
end
end Mine

end
section
open PySem PySem.W PyProof.Rows
set_option maxRecDepth 100000
namespace Mine
theorem Mr.grow {x : Cx} {σ : M} {h h' : Heap} (R : Mr x σ h) (k : ∀ b o, h.get? b = some o → h'.get? b = some o) : Mr x σ h' := by
  obtain ⟨st, i, ⟨m, n, r, z⟩, ⟨its, ⟨o, nn, e, q⟩, ia⟩, sz⟩ := id R
  refine ⟨fun b o e => k b o (st b o e), k _ _ i, ⟨m, n.keeps k, fun f => ?_, z⟩, ⟨its, ⟨o, nn, k _ _ e, q⟩, ia⟩, sz⟩
  exact (r f).map fun v rv => rv.keeps R fun b o e _ => k b o e
theorem plain_sub {e : PySem.Expr} (h : plainE e = true) (o i : Value) : subscripted e false o i = operate [o, i] (getItem o i) := by
  cases e <;> first | rfl | injection h
theorem plain_star {e : PySem.Expr} (h : plainE e = true) (env : Env) (rest : List PySem.Expr) : starEach (e :: rest) env = (false, eval e env) :: starEach rest env := by
  cases e <;> first | rfl | injection h
theorem op_marks (op : COp) (e : PySem.Expr) (h : behindInMarks .Eq e = false) : behindInMarks op.op e = false := by cases op <;> exact h
theorem plain_marks {e : PySem.Expr} (h : plainE e = true) (op : COp) : behindInMarks op.op e = false := op_marks op e (by cases e <;> first | rfl | injection h)
theorem plain_swaps {e : PySem.Expr} (h : plainE e = true) (t : Option PySem.Expr) (n : Nat) (env : Env) : swapsWith e t n env = pure false := by
  cases e <;> first | rfl | injection h
section
variable {x : Cx} (O : Ok x) {A : Around} {E' : Value → Shared → Prop} {env : Env} {vars : List Str} (EO : EnvOk env vars) {ρ : Loc}
include O EO in
theorem call_self {s : Shared} {σ : M} (R : Mr x σ s.heap) (l : Lr x env vars ρ s.heap) {m : Nat} {md : MethD} (hm : x.c.P[m]? = some md) {bp ap p : Pos} {args : List PySem.Expr} {Q : Value → Shared → Prop}
    (hl : ap.endLine = p.line) (hf : methodCallForm args.length (backTo p (starEach args env)) [] = true) (h : wpAny (model x.prog x.w) A (callWith p (.ref (x.fnA m)) [.ref x.I] (backTo p (starEach args env)) []) Q E' s) :
    wpAny (model x.prog x.w) A (eval (.Call (.Attribute (.Name ("self" : Str) bp) md.nm ap) args [] p) env) Q E' s := by
  show wpAny _ _ (eval (.Name ("self" : Str) bp) env >>= fun ov => standAt ap.atName >>= fun _ => methodCall (.Name ("self" : Str) bp) md.nm ap p env ov args.length (backTo p (starEach args env)) []) _ _ _
  refine wpAny_bind (load_self EO R l (wpAny_bind (wpAny_standAt ?_)))
  unfold methodCall calleeOf methodCallPos
  rw [hf]
  have q : (ap.endLine == p.line) = true := by rw [hl]; exact beq_self_eq_true _
  simp only [if_true, Bool.not_true, Bool.false_or, q]
  exact wpAny_bind (wpAny_holding (meth_of O R hm (wpAny_bind (wpAny_pure h))))

theorem ints_at : ∀ {vs : List Value} {ns : List Int} (_ : IntsAre vs ns) (i : Nat) (n : Int), ns[i]? = some n → ∃ t, vs[i]? = some (.int n t)
  | _, _, .cons k t r, 0, n, h => by simp at h; subst h; exact ⟨t, rfl⟩
  | _, _, .cons k t r, i + 1, n, h => by simp at h; obtain ⟨t', e⟩ := ints_at r i n h; exact ⟨t', by simpa using e⟩
  | _, _, .nil, i, n, h => by simp at h
theorem at_of {l : List Int} {k n : Int} (h : at? l k = some n) : 0 ≤ k ∧ l[k.toNat]? = some n ∧ k.toNat < l.length := by
  unfold at? at h
  split at h
  · rename_i q; exact ⟨q, h, (List.getElem?_eq_some_iff.mp h).1⟩
  · injection h
theorem item_at {s : Shared} {a : Addr} {items : Array Value} {ns : List Int} (hl : s.heap.IsList a items) (hi : IntsAre items.toList ns) {k n : Int} {u : Tok} (h : at? ns k = some n) (hsz : ns.length < 2 ^ 62) {value e : PySem.Expr} (he : plainE e = true) {Q : Value → Shared → Prop}
    (hq : ∀ t, Q (.int n t) s) : wpAny (model x.prog x.w) A (subscriptTail value e (.ref a) (.int k u)) Q E' s := by
  refine Classical.byContradiction fun hHid => ?_
  obtain ⟨h0, hn, hlt⟩ := at_of h
  obtain ⟨t, ht⟩ := ints_at hi _ _ hn
  refine hHid ?_
  clear hHid
  exact tail_any hl.typeIs slot_list_getitem.lookup (wpAny_getItem_list hl h0 (by lia) (by rw [← Array.getElem?_toList]; exact ht) (hq t)) (plain_sub he _ _)
theorem hm_get {σ : M} (h : σ.hm = true) : σ.get .mem = .memr := by
  show (match σ.hm with | true => V.memr | false => V.unset) = _
  rw [h]
theorem Kp.tok' {ds : List Addr} {s s' : Shared} (k : Kp ds s s') : Kp ds s { s' with toks := s'.toks + 1 } := k.trans .tok

end
structure Below (x : Cx) (A : Around) (cf : Nat → List V → M → Option (V × M)) : Prop where
  ok : CallOk x A cf
  P : ∀ m args σ r, cf m args σ = some r → ∃ md, x.c.P[m]? = some md
  sz : ∀ m args σ v σ', cf m args σ = some (v, σ') → σ.mem.length < 2 ^ 62 → σ'.mem.length < 2 ^ 62
structure Small (x : Cx) : Prop where
  tab : ∀ (k : Nat) (n : Str) (l : List Int), x.c.tabs[k]? = some (n, l) → l.length < 2 ^ 62
  ins : x.c.instr.length < 2 ^ 62
section
variable (x : Cx) (A : Around) (env : Env) (vars : List Str) (ρ : Loc)
noncomputable abbrev PostE (v : V) (σ' : M) (s : Shared) (Q : Value → Shared → Prop) : Prop := ∀ y s', Mr x σ' s'.heap → Lr x env vars ρ s'.heap → Rp x s'.heap v y → Kp [x.D, x.L] s s' → Q y s'
noncomputable def WE (ex : PySem.Expr) (σ : M) (v : V) (σ' : M) : Prop := ∀ (s : Shared) (Q : Value → Shared → Prop) (E' : Value → Shared → Prop), Mr x σ s.heap → Lr x env vars ρ s.heap → PostE x env vars ρ v σ' s Q → wpAny (model x.prog x.w) A (eval ex env) Q E' s
noncomputable def SE (cf : Nat → List V → M → Option (V × M)) (e : E) : Prop := ∀ (ex : PySem.Expr) (σ : M) (v : V) (σ' : M), trE x.c vars e ex = true → evE x.c cf ρ e σ = some (v, σ') → σ.mem.length < 2 ^ 62 → σ'.mem.length < 2 ^ 62 ∧ WE x A env vars ρ ex σ v σ'
end
section
variable {x : Cx} (O : Ok x) (Z : Small x) {A : Around} {env : Env} {vars : List Str} (EO : EnvOk env vars) {ρ : Loc} {cf : Nat → List V → M → Option (V × M)} (B : Below x A cf)
theorem e_int (i : Int) : SE x A env vars ρ cf (.int i) := fun ex σ v σ' ht he hz => by
  obtain ⟨k, p, rfl⟩ := tr_int ht
  (injection he with he; injection he with he hz; subst he; subst hz)
  exact ⟨hz, fun s Q E' R l h => wpAny_Constant_int (h _ _ R l ⟨_, rfl⟩ .tok)⟩
theorem e_none : SE x A env vars ρ cf .none := fun ex σ v σ' ht he hz => by
  obtain ⟨k, p, rfl⟩ := tr_none ht
  (injection he with he; injection he with he hz; subst he; subst hz)
  exact ⟨hz, fun s Q E' R l h => wpAny_Constant_none (h _ _ R l rfl .refl)⟩
theorem e_txt : SE x A env vars ρ cf .txt := fun ex σ v σ' ht he hz => by
  obtain ⟨s, k, p, rfl⟩ := tr_txt ht
  (injection he with he; injection he with he hz; subst he; subst hz)
  exact ⟨hz, fun s Q E' R l h => wpAny_Constant_str (h _ _ R l ⟨_, _, rfl⟩ .tok)⟩
theorem e_bool (b : Bool) : SE x A env vars ρ cf (.bool b) := fun ex σ v σ' ht he hz => by
  obtain ⟨k, p, rfl⟩ := tr_bool ht
  (injection he with he; injection he with he hz; subst he; subst hz)
  exact ⟨hz, fun s Q E' R l h => wpAny_Constant_bool (h _ _ R l rfl .refl)⟩
include EO in
theorem e_var (i : Nat) : SE x A env vars ρ cf (.var i) := fun ex σ v σ' ht he hz => by
  obtain ⟨n, p, rfl, hv⟩ := tr_var ht
  refine map_el he fun u hu e => ?_
  cases e
  exact ⟨hz, fun s Q E' R l h => load_var EO R l (isVar_of hv) hu fun y r => h y s R l r .refl⟩
include O EO
theorem e_fld (f : Fld) : SE x A env vars ρ cf (.fld f) := fun ex σ v σ' ht he hz => by
  obtain ⟨b, p, rfl, hb⟩ := tr_fld ht
  obtain ⟨bp, rfl⟩ := isSelf_of hb
  refine map_el he fun u hu e => ?_
  cases e
  obtain ⟨rfl, nu⟩ := V.got?_of hu
  exact ⟨hz, fun s Q E' R l h => Attribute_Name_ (load_self EO R l (get_fld O R f nu fun y r => h y _ R l r .tok))⟩
theorem e_cst (k : Nat) : SE x A env vars ρ cf (.cst k) := fun ex σ v σ' ht he hz => by
  obtain ⟨b, n, i, p, rfl, hb, hk⟩ := tr_cst ht
  obtain ⟨bp, rfl⟩ := isSelf_of hb
  refine map_el he fun u hu e => ?_
  cases e
  cases hk.symm.trans hu
  exact ⟨hz, fun s Q E' R l h => Attribute_Name_ (load_self EO R l (get_cst O R hk fun t => h _ _ R l ⟨t, rfl⟩ .tok))⟩
theorem e_mref (m : Nat) : SE x A env vars ρ cf (.mref m) := fun ex σ v σ' ht he hz => by
  obtain ⟨b, n, p, rfl, hb, hm⟩ := tr_mref ht
  obtain ⟨bp, rfl⟩ := isSelf_of hb
  obtain ⟨md, hmd, rfl⟩ := isMeth_of hm
  (injection he with he; injection he with he hz; subst he; subst hz)
  refine ⟨hz, fun s Q E' R l h => Attribute_Name_ (load_self EO R l (get_meth O R hmd ?_))⟩
  have aw2 : Away [x.D, x.L] s.heap (s.heap.push (methodObj (.ref (x.fnA m)) (.ref x.I))) := fun b o e _ => Heap.get?_push_of_some _ e
  exact h _ _ (R.grow fun b o e => Heap.get?_push_of_some _ e) (l.keeps R aw2) ⟨_, rfl, Heap.get?_push_size _ rfl⟩ ⟨_, _, rfl, aw2⟩
theorem e_mem {i : E} (ih : SE x A env vars ρ cf i) : SE x A env vars ρ cf (.mem i) := fun ex σ v σ' ht he hz => by
  obtain ⟨b, p, e, q, rfl, hb, hp, hi⟩ := tr_mem ht
  obtain ⟨bp, rfl⟩ := isSelf_of hb
  obtain ⟨hm, he⟩ := cond_of he
  obtain ⟨k, σ₁, h1, he⟩ := onI_of he
  obtain ⟨n, hn, e'⟩ := map_of he
  cases e'
  obtain ⟨z1, w1⟩ := ih e σ _ _ hi h1 hz
  refine ⟨z1, fun s Q E' R l h => Subscript_ (Attribute_Name_ (load_self EO R l (get_fld O R .mem (hm_get hm ▸ fun q => nomatch q) fun y r => ?_)))⟩
  obtain rfl : y = .ref x.L := (hm_get hm ▸ r :)
  refine w1 _ _ _ R l fun y s₁ R₁ l₁ r₁ k₁ => ?_
  obtain ⟨t, rfl⟩ := r₁
  obtain ⟨its, il, ia⟩ := R₁.mem
  exact item_at il.isList ia hn z1 hp fun t => h _ s₁ R₁ l₁ ⟨t, rfl⟩ (Kp.tok.trans k₁)
include Z in
theorem e_tab {t : Nat} {i : E} (ih : SE x A env vars ρ cf i) : SE x A env vars ρ cf (.tab t i) := fun ex σ v σ' ht he hz => by
  obtain ⟨b, n, tl, p, e, q, rfl, hb, htb, hp, hi⟩ := tr_tab ht
  obtain ⟨bp, rfl⟩ := isSelf_of hb
  obtain ⟨k, σ₁, h1, he⟩ := onI_of he
  obtain ⟨l', hl', he⟩ := bind_of he
  cases htb.symm.trans hl'
  obtain ⟨n', hn, e'⟩ := map_of he
  cases e'
  obtain ⟨z1, w1⟩ := ih e σ _ _ hi h1 hz
  obtain ⟨fa, cp, nf, vs, hk, ia⟩ := O.tab t n tl htb
  refine ⟨z1, fun s Q E' R l h => Subscript_ (Attribute_Name_ (load_self EO R l (get_lst O R fa hk cp nf (w1 _ _ _ R l fun y s₁ R₁ l₁ r₁ k₁ => ?_))))⟩
  obtain ⟨t', rfl⟩ := r₁
  exact item_at (items := vs.toArray) ⟨_, R₁.stays _ _ (O.X _ _ hk), rfl, _, rfl⟩ ia hn (Z.tab _ _ _ htb) hp fun t => h _ s₁ R₁ l₁ ⟨t, rfl⟩ (Kp.tok.trans k₁)
omit O EO in
theorem e_bin {op : BOp} {a b : E} (iha : SE x A env vars ρ cf a) (ihb : SE x A env vars ρ cf b) : SE x A env vars ρ cf (.bin op a b) := fun ex σ v σ' ht he hz => by
  obtain ⟨el, er, p, rfl, ha, hb⟩ := tr_bin ht
  obtain ⟨i, σ₁, h1, he⟩ := onI_of he
  obtain ⟨j, σ₂, h2, he⟩ := onI_of he
  obtain ⟨n, hn, e'⟩ := map_of he
  cases e'
  obtain ⟨z1, w1⟩ := iha el σ _ _ ha h1 hz
  obtain ⟨z2, w2⟩ := ihb er σ₁ _ _ hb h2 z1
  refine ⟨z2, fun s Q E' R l h => wpAny_BinOp (w1 s _ _ R l fun y s₁ R₁ l₁ r₁ k₁ => w2 s₁ _ _ R₁ l₁ fun y₂ s₂ R₂ l₂ r₂ k₂ => ?_)⟩
  obtain ⟨t, rfl⟩ := r₁
  obtain ⟨t₂, rfl⟩ := r₂
  exact BOp.binary hn (h _ _ R₂ l₂ ⟨_, rfl⟩ ((k₁.trans k₂).tok'))
omit O EO in
theorem e_inv {a : E} (ih : SE x A env vars ρ cf a) : SE x A env vars ρ cf (.inv a) := fun ex σ v σ' ht he hz => by
  obtain ⟨el, p, rfl, ha⟩ := tr_inv ht
  obtain ⟨i, σ₁, h1, he⟩ := onI_of he
  (injection he with he; injection he with he hz; subst he; subst hz)
  obtain ⟨z1, w1⟩ := ih el σ _ _ ha h1 hz
  refine ⟨z1, fun s Q E' R l h => UnaryOp_ (w1 s _ _ R l fun y s₁ R₁ l₁ r₁ k₁ => ?_)⟩
  obtain ⟨t, rfl⟩ := r₁
  exact invert_int (h _ _ R₁ l₁ ⟨_, rfl⟩ k₁.tok')
omit O EO in
theorem e_cmp2 {op : COp} {a b : E} (iha : SE x A env vars ρ cf a) (ihb : SE x A env vars ρ cf b) {ex : PySem.Expr} {σ : M} {v : V} {σ' : M} (ht : trE x.c vars (.cmp op a b) ex = true) (he : evE x.c cf ρ (.cmp op a b) σ = some (v, σ')) (hz : σ.mem.length < 2 ^ 62) :
    ∃ el er p c, ex = .Compare el [op.op] [er] p ∧ plainE er = true ∧ v = .bool c ∧ σ'.mem.length < 2 ^ 62 ∧ ∀ (s : Shared) (Q : Value → Shared → Prop) (E' : Value → Shared → Prop), Mr x σ s.heap → Lr x env vars ρ s.heap → (∀ s', Mr x σ' s'.heap → Lr x env vars ρ s'.heap → Kp [x.D, x.L] s s' → Q (.bool c) s') →
      wpAny (model x.prog x.w) A (eval el env) (fun y s₁ => wpAny (model x.prog x.w) A (eval er env) (fun y₂ s₂ => wpAny (model x.prog x.w) A (compareOp op.op y y₂) Q E' s₂) E' s₁) E' s := by
  refine Classical.byContradiction fun hHid => ?_
  obtain ⟨el, er, p, rfl, hp, ha, hb⟩ := tr_cmp ht
  obtain ⟨i, σ₁, h1, he⟩ := onI_of he
  obtain ⟨j, σ₂, h2, he⟩ := onI_of he
  refine hHid ?_
  clear hHid
  (injection he with he; injection he with he hz; subst he; subst hz)
  obtain ⟨z1, w1⟩ := iha el σ _ _ ha h1 hz
  obtain ⟨z2, w2⟩ := ihb er σ₁ _ _ hb h2 z1
  refine ⟨el, er, p, _, rfl, hp, rfl, z2, fun s Q E' R l h => w1 s _ _ R l fun y s₁ R₁ l₁ r₁ k₁ => w2 s₁ _ _ R₁ l₁ fun y₂ s₂ R₂ l₂ r₂ k₂ => ?_⟩
  obtain ⟨t, rfl⟩ := r₁
  obtain ⟨t₂, rfl⟩ := r₂
  exact COp.compare (h _ R₂ l₂ (k₁.trans k₂))
omit O EO in
theorem e_cmp {op : COp} {a b : E} (iha : SE x A env vars ρ cf a) (ihb : SE x A env vars ρ cf b) : SE x A env vars ρ cf (.cmp op a b) := fun ex σ v σ' ht he hz => by
  obtain ⟨el, er, p, c, rfl, hp, rfl, z, w⟩ := e_cmp2 iha ihb ht he hz
  exact ⟨z, fun s Q E' R l h => wpAny_Compare1 (w s _ _ R l fun s' R' l' k' => h _ s' R' l' rfl k') (plain_marks hp op)⟩
omit O in
theorem e_isNone2 {i : Nat} {ex : PySem.Expr} {σ : M} {v : V} {σ' : M} (ht : trE x.c vars (.isNone i) ex = true) (he : evE x.c cf ρ (.isNone i) σ = some (v, σ')) :
    ∃ n p k q p' c, ex = .Compare (.Name n p) [.Is] [.Constant .none k q] p' ∧ v = .bool c ∧ σ' = σ ∧ ∀ (s : Shared) (Q : Value → Shared → Prop) (E' : Value → Shared → Prop), Mr x σ s.heap → Lr x env vars ρ s.heap → Q (.bool c) s →
      wpAny (model x.prog x.w) A (eval (.Name n p) env) (fun y s₁ => wpAny (model x.prog x.w) A (eval (.Constant .none k q) env) (fun y₂ s₂ => wpAny (model x.prog x.w) A (compareOp .Is y y₂) Q E' s₂) E' s₁) E' s := by
  obtain ⟨n, p, k, q, p', rfl, hv⟩ := tr_isNone ht
  refine bind_el he fun u hu he => ?_
  refine map_el he fun c hc e => ?_
  cases e
  refine ⟨n, p, k, q, p', c, rfl, rfl, rfl, fun s Q E' R l h => load_var EO R l (isVar_of hv) hu fun y r => wpAny_Constant_none ?_⟩
  cases u <;> cases hc
  · obtain ⟨t, rfl⟩ := r; exact is_int_none h
  · obtain rfl := r; exact wpAny_is_self rfl h
  · obtain ⟨a, rfl, _⟩ := r; exact is_ref_none h
  · obtain rfl := r; exact is_ref_none h
omit O in
theorem e_isNone (i : Nat) : SE x A env vars ρ cf (.isNone i) := fun ex σ v σ' ht he hz => by
  obtain ⟨n, p, k, q, p', c, rfl, rfl, rfl, w⟩ := e_isNone2 (A := A) (env := env) EO ht he
  exact ⟨hz, fun s Q E' R l h => wpAny_Compare1 (w s _ _ R l (h _ s R l rfl .refl)) rfl⟩
theorem e_isNoneF2 {f : Fld} {ex : PySem.Expr} {σ : M} {v : V} {σ' : M} (ht : trE x.c vars (.isNoneF f) ex = true) (he : evE x.c cf ρ (.isNoneF f) σ = some (v, σ')) :
    ∃ (l : PySem.Expr) (k : Nat) (q p' : Pos) (c : Bool), ex = .Compare l [.Is] [.Constant .none k q] p' ∧ v = .bool c ∧ σ' = σ ∧ ∀ (s : Shared) (Q : Value → Shared → Prop) (E' : Value → Shared → Prop), Mr x σ s.heap → Lr x env vars ρ s.heap → Q (.bool c) { s with toks := s.toks + 1 } →
      wpAny (model x.prog x.w) A (eval l env) (fun y s₁ => wpAny (model x.prog x.w) A (eval (.Constant .none k q) env) (fun y₂ s₂ => wpAny (model x.prog x.w) A (compareOp .Is y y₂) Q E' s₂) E' s₁) E' s := by
  refine Classical.byContradiction fun hHid => ?_
  obtain ⟨b, p, k, q, p', rfl, hb⟩ := tr_isNoneF ht
  obtain ⟨bp, rfl⟩ := isSelf_of hb
  refine hHid ?_
  clear hHid
  refine map_el he fun c hc e => ?_
  cases e
  generalize hu : σ.get f = u at hc
  have nu : σ.get f ≠ .unset := fun q => by rw [← hu, q] at hc; cases hc
  refine ⟨_, k, q, p', c, rfl, rfl, rfl, fun s Q E' R l h => Attribute_Name_ (load_self EO R l (get_fld O R f nu fun y r => wpAny_Constant_none ?_))⟩
  rw [hu] at r
  cases u <;> cases hc
  · obtain ⟨t, rfl⟩ := r; exact is_int_none h
  · obtain rfl := r; exact wpAny_is_self rfl h
theorem e_isNoneF (f : Fld) : SE x A env vars ρ cf (.isNoneF f) := fun ex σ v σ' ht he hz => by
  obtain ⟨l, k, q, p', c, rfl, rfl, rfl, w⟩ := e_isNoneF2 (A := A) (env := env) O EO ht he
  exact ⟨hz, fun s Q E' R l h => wpAny_Compare1 (w s _ _ R l (h _ _ R l rfl .tok)) rfl⟩
include B
theorem e_call0 (m : Nat) : SE x A env vars ρ cf (.call0 m) := fun ex σ v σ' ht he hz => by
  obtain ⟨b, n, ap, p, rfl, hb, hm, hl⟩ := tr_call0 ht
  obtain ⟨bp, rfl⟩ := isSelf_of hb
  obtain ⟨md, hmd, rfl⟩ := isMeth_of hm
  refine ⟨B.sz _ _ _ _ _ he hz, fun s Q E' R l h => call_self O EO R l hmd hl rfl ?_⟩
  obtain ⟨fd, _, hk, _⟩ := (O.meth m md hmd).fd
  exact callWith_meth0 rfl (R.stays _ _ (O.X _ _ hk)) (wpAny_call (B.ok m [] σ v σ' he s [] _ R .nil fun y s' R' r k => h y s' R' (l.keeps R k.away) r k))
theorem e_call1 {m : Nat} {a : E} (ih : SE x A env vars ρ cf a) : SE x A env vars ρ cf (.call1 m a) := fun ex σ v σ' ht he hz => by
  obtain ⟨b, n, ap, e, p, rfl, hb, hm, hl, hp, ha⟩ := tr_call1 ht
  obtain ⟨bp, rfl⟩ := isSelf_of hb
  obtain ⟨md, hmd, rfl⟩ := isMeth_of hm
  obtain ⟨⟨u, σ₁⟩, h1, he⟩ := bind_of he
  obtain ⟨z1, w1⟩ := ih e σ _ _ ha h1 hz
  refine ⟨B.sz _ _ _ _ _ he z1, fun s Q E' R l h => call_self O EO R l hmd hl (by rw [plain_star hp env []]; rfl) ?_⟩
  obtain ⟨fd, _, hk, _⟩ := (O.meth m md hmd).fd
  exact callWith_meth (h₀ := x.h₀) rfl (O.X _ _ hk) (args_cons (w1 s _ _ R l fun y s₁ R₁ l₁ r₁ k₁ => args_nil ⟨R₁.stays, wpAny_call (B.ok m [u] σ₁ v σ' he s₁ [y] _ R₁ (.cons r₁ .nil) fun y s' R' r k => h y s' R' (l₁.keeps R₁ k.away) r (k₁.trans k))⟩) (plain_star hp env [])) (plain_star hp env [])
theorem e_call2 {m : Nat} {a d : E} (iha : SE x A env vars ρ cf a) (ihd : SE x A env vars ρ cf d) : SE x A env vars ρ cf (.call2 m a d) := fun ex σ v σ' ht he hz => by
  obtain ⟨b, n, ap, e, f, p, rfl, hb, hm, hl, hp, hp2, ha, hd⟩ := tr_call2 ht
  obtain ⟨bp, rfl⟩ := isSelf_of hb
  obtain ⟨md, hmd, rfl⟩ := isMeth_of hm
  obtain ⟨⟨u, σ₁⟩, h1, he⟩ := bind_of he
  obtain ⟨⟨u₂, σ₂⟩, h2, he⟩ := bind_of he
  obtain ⟨z1, w1⟩ := iha e σ _ _ ha h1 hz
  obtain ⟨z2, w2⟩ := ihd f σ₁ _ _ hd h2 z1
  refine ⟨B.sz _ _ _ _ _ he z2, fun s Q E' R l h => call_self O EO R l hmd hl (by rw [plain_star hp, plain_star hp2]; rfl) ?_⟩
  obtain ⟨fd, _, hk, _⟩ := (O.meth m md hmd).fd
  exact callWith_meth (h₀ := x.h₀) rfl (O.X _ _ hk) (args_cons (w1 s _ _ R l fun y s₁ R₁ l₁ r₁ k₁ => args_cons (w2 s₁ _ _ R₁ l₁ fun y₂ s₂ R₂ l₂ r₂ k₂ => args_nil ⟨R₂.stays, wpAny_call (B.ok m [u, u₂] σ₂ v σ' he s₂ [y, y₂] _ R₂ (.cons (r₁.keeps R₁ k₂.away) (.cons r₂ .nil)) fun y s' R' r k =>
    h y s' R' (l₂.keeps R₂ k.away) r ((k₁.trans k₂).trans k))⟩) (plain_star hp2 env [])) (plain_star hp env [f])) (plain_star hp env [f])
theorem e_callV (i : Nat) : SE x A env vars ρ cf (.callV i) := fun ex σ v σ' ht he hz => by
  obtain ⟨n, p, q, rfl, hv⟩ := tr_callV ht
  refine bind_el he fun u hu he => ?_
  refine bind_el he fun m hm he => ?_
  cases V.meth?_of hm
  refine ⟨B.sz _ _ _ _ _ he hz, fun s Q E' R l h => Call_Name0 (load_var EO R l (isVar_of hv) hu fun y r => ?_)⟩
  obtain ⟨a, rfl, ga⟩ := r
  obtain ⟨md, hm⟩ := B.P _ _ _ _ he
  obtain ⟨fd, _, hk, _⟩ := (O.meth m md hm).fd
  exact callWith_M0 (K := x.K) (env := env) (g := x.fnA m) (self := .ref x.I) ⟨ga, X' O R⟩ (by unfold fnIn; rw [hk]) (wpAny_call (method_call ga (B.ok m [] σ v σ' he s [] _ R .nil fun y s' R' r k => h y s' R' (l.keeps R k.away) r k)))
include Z
theorem e_callT {i : E} (ih : SE x A env vars ρ cf i) : SE x A env vars ρ cf (.callT i) := fun ex σ v σ' ht he hz => by
  obtain ⟨b, p, e, q, sp, r, rfl, hb, hp, hi⟩ := tr_callT ht
  obtain ⟨bp, rfl⟩ := isSelf_of hb
  obtain ⟨k, σ₁, h1, he⟩ := onI_of he
  obtain ⟨h0, he⟩ := ite_of he
  refine bind_el he fun m hm he => ?_
  obtain ⟨z1, w1⟩ := ih e σ _ _ hi h1 hz
  obtain ⟨fa, cp, nf, hk⟩ := O.ins
  refine ⟨B.sz _ _ _ _ _ he z1, fun s Q E' R l h => Call_ (Subscript_ (Attribute_Name_ (load_self EO R l (get_lst O R fa hk cp nf (w1 _ _ _ R l fun y s₁ R₁ l₁ r₁ k₁ => ?_)))))⟩
  obtain ⟨t', rfl⟩ := r₁
  have hl : s₁.heap.IsList x.insA (x.c.instr.map fun m => Value.ref (x.fnA m)).toArray := ⟨_, R₁.stays _ _ (O.X _ _ hk), rfl, _, rfl⟩
  have hlt := (List.getElem?_eq_some_iff.mp hm).1
  have hi := Z.ins
  refine tail_any hl.typeIs slot_list_getitem.lookup (wpAny_getItem_list hl h0 (by lia) (x := .ref (x.fnA m)) (by simp [hm]) ?_) (plain_sub hp _ _)
  obtain ⟨md, hm⟩ := B.P _ _ _ _ he
  obtain ⟨fd, _, hk, _⟩ := (O.meth m md hm).fd
  exact callWith_meth (h₀ := x.h₀) (first := []) rfl (O.X _ _ hk) (args_cons (load_self EO R₁ l₁ (args_nil ⟨R₁.stays, wpAny_call (B.ok m [] σ₁ v σ' he s₁ [] _ R₁ .nil fun y s' R' r k => h y s' R' (l₁.keeps R₁ k.away) r ((Kp.tok.trans k₁).trans k))⟩)))
theorem sound_E : ∀ e : E, SE x A env vars ρ cf e
  | .int i => e_int i
  | .none => e_none
  | .var i => e_var EO i
  | .fld f => e_fld O EO f
  | .cst k => e_cst O EO k
  | .mref m => e_mref O EO m
  | .mem i => e_mem O EO (sound_E i)
  | .tab t i => e_tab O Z EO (sound_E i)
  | .bin op a b => e_bin (sound_E a) (sound_E b)
  | .inv a => e_inv (sound_E a)
  | .cmp op a b => e_cmp (sound_E a) (sound_E b)
  | .isNone i => e_isNone EO i
  | .isNoneF f => e_isNoneF O EO f
  | .txt => e_txt
  | .bool b => e_bool b
  | .stuck => fun _ _ _ _ _ he _ => nomatch he
  | .call0 m => e_call0 O EO B m
  | .call1 m a => e_call1 O EO B (sound_E a)
  | .call2 m a d => e_call2 O EO B (sound_E a) (sound_E d)
  | .callV i => e_callV O EO B i
  | .callT i => e_callT O Z EO B (sound_E i)
end
end Mine

end
section
open PySem PySem.W PyProof.Rows
set_option maxRecDepth 100000
set_option linter.unusedSimpArgs false
namespace Mine
section
variable {c : Cls} {vars : List Str} {st : Stmt}
theorem ts_expr {e : E} (h : trS c vars (.expr e) st = true) : ∃ ex p, st = .Expr ex p ∧ plainE ex = true ∧ trE c vars e ex = true := by
  replace h := inv_trS_expr h
  obtain ⟨_, _, rfl, h⟩ := h
  simp only [Bool.and_eq_true] at h
  exact ⟨_, _, rfl, h.1, h.2⟩
theorem ts_asgV {v : Nat} {e : E} (h : trS c vars (.asgV v e) st = true) : ∃ n q ex p, st = .Assign [.Name n q] ex p ∧ v ≠ 0 ∧ isVar vars v n = true ∧ plainE ex = true ∧ trE c vars e ex = true := by
  replace h := inv_trS_asgV h
  obtain ⟨_, _, _, _, rfl, h⟩ := h
  simp only [Bool.and_eq_true, bne_iff_ne] at h
  exact ⟨_, _, _, _, rfl, h.1.1.1, h.1.1.2, h.1.2, h.2⟩
theorem ts_asgF {f : Fld} {e : E} (h : trS c vars (.asgF f e) st = true) : ∃ b q ex p, st = .Assign [.Attribute b f.nm q] ex p ∧ isSelf b = true ∧ plainE ex = true ∧ trE c vars e ex = true := by
  replace h := inv_trS_asgF h
  obtain ⟨_, _, _, _, _, rfl, h⟩ := h
  simp only [Bool.and_eq_true, beq_iff_eq] at h
  obtain ⟨⟨⟨h1, rfl⟩, h2⟩, h3⟩ := h
  exact ⟨_, _, _, _, rfl, h1, h2, h3⟩
theorem ts_asgM {i e : E} (h : trS c vars (.asgM i e) st = true) : ∃ b q ei r ex p, st = .Assign [.Subscript (.Attribute b ("memory" : Str) q) ei r] ex p ∧ isSelf b = true ∧ plainE ei = true ∧ plainE ex = true ∧ trE c vars i ei = true ∧ trE c vars e ex = true := by
  replace h := inv_trS_asgM h
  obtain ⟨_, _, _, _, _, _, _, rfl, h⟩ := h
  simp only [Bool.and_eq_true, beq_iff_eq] at h
  obtain ⟨⟨⟨⟨⟨h1, rfl⟩, h2⟩, h3⟩, h4⟩, h5⟩ := h
  exact ⟨_, _, _, _, _, _, rfl, h1, h2, h3, h4, h5⟩
theorem ts_augV {v : Nat} {op : BOp} {e : E} (h : trS c vars (.augV v op e) st = true) : ∃ n q ex p, st = .AugAssign (.Name n q) op.op ex p ∧ v ≠ 0 ∧ isVar vars v n = true ∧ trE c vars e ex = true := by
  replace h := inv_trS_augV h
  obtain ⟨_, _, _, _, _, rfl, h⟩ := h
  simp only [Bool.and_eq_true, beq_iff_eq, bne_iff_ne] at h
  obtain ⟨⟨⟨h1, h2⟩, rfl⟩, h3⟩ := h
  exact ⟨_, _, _, _, rfl, h1, h2, h3⟩
theorem ts_augF {f : Fld} {op : BOp} {e : E} (h : trS c vars (.augF f op e) st = true) : ∃ b q ex p, st = .AugAssign (.Attribute b f.nm q) op.op ex p ∧ isSelf b = true ∧ trE c vars e ex = true := by
  replace h := inv_trS_augF h
  obtain ⟨_, _, _, _, _, _, rfl, h⟩ := h
  simp only [Bool.and_eq_true, beq_iff_eq] at h
  obtain ⟨⟨⟨h1, rfl⟩, rfl⟩, h3⟩ := h
  exact ⟨_, _, _, _, rfl, h1, h3⟩
theorem ts_ite {t : E} {a b : Ss} (h : trS c vars (.ite t a b) st = true) : ∃ ex l r p, st = .If ex l r p ∧ (cmpE t || plainT ex) = true ∧ trE c vars t ex = true ∧ trSs c vars a l = true ∧ trSs c vars b r = true := by
  replace h := inv_trS_ite h
  obtain ⟨_, _, _, _, rfl, h⟩ := h
  simp only [Bool.and_eq_true] at h
  exact ⟨_, _, _, _, rfl, h.1.1.1, h.1.1.2, h.1.2, h.2⟩
theorem ts_ret {e : E} (h : trS c vars (.ret e) st = true) : ∃ ex p, st = .Return (some ex) p ∧ trE c vars e ex = true := by
  replace h := inv_trS_ret h
  obtain ⟨_, _, rfl, h⟩ := h
  exact ⟨_, _, rfl, h⟩
theorem ts_ret0 (h : trS c vars .ret0 st = true) : ∃ p, st = .Return none p := by
  replace h := inv_trS_ret0 h
  obtain ⟨_, rfl, h⟩ := h
  exact ⟨_, rfl⟩
theorem ts_pass (h : trS c vars .pass st = true) : ∃ p, st = .Pass p := by
  replace h := inv_trS_pass h
  obtain ⟨_, rfl, h⟩ := h
  exact ⟨_, rfl⟩
end

section
variable {x : Cx} {σ : M} {h h' : Heap} {env : Env} {vars : List Str} {ρ : Loc}
theorem Rp.off {v : V} {y : Value} {a : Addr} (r : Rp x h v y) (k : Away [a] h h') (d : ∃ o es ep, h.get? a = some o ∧ o.data = .dict es ep) : Rp x h' v y := by
  cases v <;> try exact r
  obtain ⟨b, e, g⟩ := r
  refine ⟨b, e, k b _ g fun q => ?_⟩
  have := List.mem_singleton.mp q
  subst this
  obtain ⟨o, es, ep, e1, e2⟩ := d
  rw [g] at e1; (injection e1 with e1; subst e1); injection e2
theorem Mr.off {a : Addr} (R : Mr x σ h) (k : Away [a] h h') (d : ∃ o es ep, h.get? a = some o ∧ o.data = .dict es ep) (nD : a ≠ x.D) (nL : a ≠ x.L) (nI : a ≠ x.I) (nB : x.h₀.get? a = none) : Mr x σ h' := by
  have k' : ∀ b o, b ≠ a → h.get? b = some o → h'.get? b = some o := fun b o q e => k b o e (by simpa using q)
  obtain ⟨st, i, ⟨m, n, r, z⟩, ⟨its, ⟨o, nn, e, q⟩, ia⟩, sz⟩ := id R
  refine ⟨fun b o e => k' b o (fun q => by rw [q, nB] at e; injection e) (st b o e), k' _ _ (Ne.symm nI) i, ⟨m, n.at fun o e => k' _ o (Ne.symm nD) e, fun f => ?_, z⟩, ⟨its, ⟨o, nn, k' _ _ (Ne.symm nL) e, q⟩, ia⟩, sz⟩
  exact (r f).map fun v rv => rv.off k d
theorem Loc.at_set {v i : Nat} {u : V} (h : v < ρ.length) : Loc.at (ρ.set v (some u)) i = if i = v then some u else ρ.at i := by
  unfold Loc.at
  rw [List.getElem?_set]
  by_cases e : v = i
  · subst e; simp [h]
  · simp [e, Ne.symm e]
theorem ints_set : ∀ {vs : List Value} {ns : List Int} (_ : IntsAre vs ns) (i : Nat) (n : Int) (t : Tok), IntsAre (vs.set i (.int n t)) (ns.set i n)
  | _, _, .nil, _, _, _ => .nil
  | _, _, .cons k u r, 0, n, t => .cons n t r
  | _, _, .cons k u r, i + 1, n, t => .cons k u (ints_set r i n t)
end

section
variable {x : Cx} (O : Ok x) {A : Around} {env : Env} {vars : List Str} (EO : EnvOk env vars)
include EO in
theorem store_var {s : Shared} {σ : M} {ρ : Loc} (R : Mr x σ s.heap) (l : Lr x env vars ρ s.heap) {i : Nat} {n : Str} {u : V} {y : Value} (hi : vars[i]? = some n) (h0 : i ≠ 0) (r : Rp x s.heap u y) {Q : Unit → Shared → Prop} {E' : Value → Shared → Prop}
    (h : ∀ s', Mr x σ s'.heap → Lr x env vars (ρ.set i (some u)) s'.heap → Kp [x.D, x.L, env.locals] s s' → Q () s') : wpAny (model x.prog x.w) A (storeName env n y) Q E' s := by
  obtain ⟨m, ns, rs⟩ := l.ns
  have mem : n ∈ vars := List.mem_of_getElem? hi
  have hp : (env.scope.kind == .class || (env.scope.kind == .module && env.locals != env.globals)) = false := by rw [EO.kind]; rfl
  refine wpAny_storeName_local (EO.loc n mem) ns (fun h' ns' sb => ?_) hp
  have aw : Away [env.locals] s.heap h' := fun b o e q => by rw [sb.2 b (by simpa using q)]; exact e
  have dk := ns_kind ns
  have hlt : i < ρ.length := by rw [l.len]; exact (List.getElem?_eq_some_iff.mp hi).1
  refine h _ (R.off aw dk l.nD l.nL l.nI l.nB) ?_ ⟨h', _, rfl, aw.mono fun b hb => by simp at hb; simp [hb]⟩
  refine ⟨⟨_, ns', fun j nj vj hj hv => ?_⟩, l.nD, l.nL, l.nI, l.nB, by rw [List.length_set]; exact l.len, by rw [Loc.at_set hlt, if_neg (Ne.symm h0)]; exact l.self⟩
  rw [Loc.at_set hlt] at hv
  by_cases e : j = i
  · subst e
    rw [if_pos rfl] at hv
    (injection hv with hv; subst hv)
    rw [hi] at hj
    (injection hj with hj; subst hj)
    exact ⟨y, if_pos rfl, r.off aw dk⟩
  · rw [if_neg e] at hv
    obtain ⟨z, e1, e2⟩ := rs j nj vj hj hv
    refine ⟨z, ?_, e2.off aw dk⟩
    rw [if_neg ?_]; exact e1
    rintro rfl
    obtain ⟨a1, a2⟩ := List.getElem?_eq_some_iff.mp hi
    obtain ⟨b1, b2⟩ := List.getElem?_eq_some_iff.mp hj
    have nd := List.pairwise_iff_getElem.mp EO.nodup
    rcases Nat.lt_or_gt_of_ne e with q | q
    · exact nd j i b1 a1 q (b2.trans a2.symm)
    · exact nd i j a1 b1 q (a2.trans b2.symm)
include O in
theorem store_mem {s : Shared} {σ : M} (R : Mr x σ s.heap) {k v : Int} {u t : Tok} {ns : List Int} (hk : putAt σ.mem k v = some ns) (hz : σ.mem.length < 2 ^ 62) {Q : Unit → Shared → Prop} {E' : Value → Shared → Prop}
    (h : ∀ s', Mr x { σ with mem := ns } s'.heap → Kp [x.D, x.L] s s' → Q () s') : wpAny (model x.prog x.w) A (setItem (.ref x.L) (.int k u) (.int v t)) Q E' s := by
  unfold putAt at hk
  split at hk
  · rename_i q
    (injection hk with hk; subst hk)
    obtain ⟨its, il, ia⟩ := R.mem
    have hlen : its.size = σ.mem.length := by rw [← ia.length, Array.length_toList]
    refine set_plainL il q.1 (by lia) (by rw [hlen]; lia) fun h' il' sb => ?_
    have aw : Away [x.D, x.L] s.heap h' := fun b o e q => by rw [sb.2 b fun z => q (by simp [z])]; exact e
    have awL : ∀ b o, b ≠ x.L → s.heap.get? b = some o → h'.get? b = some o := fun b o q e => by rw [sb.2 b q]; exact e
    obtain ⟨st, i, ⟨m, n, r, z⟩, _, _⟩ := id R
    refine h _ ⟨fun b o e => awL b o (fun q => by rw [q, O.nL] at e; injection e) (st b o e), awL _ _ (fun q => ?_) i, ⟨m, n.at fun o e => awL _ o O.DL e, fun f => ?_, z⟩, ⟨_, il', ?_⟩, by show (List.set _ _ _).length < _; rw [List.length_set]; exact R.sz⟩ ⟨h', _, rfl, aw⟩
    · obtain ⟨o, k', e, _, _, d⟩ := il
      rw [← q, i] at e; (injection e with e; subst e); injection d
    · have : (({ σ with mem := σ.mem.set k.toNat v } : M)).get f = σ.get f := by cases f <;> rfl
      rw [this]
      exact (r f).map fun y ry => ry.keeps R aw
    · rw [Array.toList_setIfInBounds]; exact ints_set ia _ _ _
  · injection hk
end
end Mine

end
section
open PySem PySem.W PyProof.Rows
set_option maxRecDepth 100000
set_option linter.unusedSimpArgs false
set_option linter.unusedVariables false
set_option linter.unusedSectionVars false
namespace Mine
noncomputable def FlR (x : Cx) (h : Heap) : Fl → Flow → Prop
  | .next, f => f = .next
  | .ret v, f => ∃ y, f = .ret y ∧ Rp x h v y
theorem V.flat_of {v u : V} (h : v.flat? = some u) : u = v ∧ v ≠ .unset ∧ ∀ (x : Cx) (h h' : Heap) (y : Value), Rp x h v y → Rp x h' v y := by
  cases v <;> cases h <;> exact ⟨rfl, (by intro q; injection q), fun _ _ _ _ r => r⟩
section
variable (x : Cx) (A : Around) (env : Env) (vars : List Str) (cf : Nat → List V → M → Option (V × M))
noncomputable abbrev PostS (fl : Fl) (ρ' : Loc) (σ' : M) (s : Shared) (Q : Flow → Shared → Prop) : Prop :=
  ∀ f s', Mr x σ' s'.heap → Lr x env vars ρ' s'.heap → FlR x s'.heap fl f → Kp [x.D, x.L, env.locals] s s' → Q f s'
noncomputable def WS (m : Sem Flow) (ρ : Loc) (σ : M) (fl : Fl) (ρ' : Loc) (σ' : M) : Prop := ∀ (s : Shared) (Q : Flow → Shared → Prop) (E' : Value → Shared → Prop), Mr x σ s.heap → Lr x env vars ρ s.heap → PostS x env vars fl ρ' σ' s Q → wpAny (model x.prog x.w) A m Q E' s
noncomputable def SS (st : S) : Prop := ∀ (t : Stmt) (ρ : Loc) (σ : M) (fl : Fl) (ρ' : Loc) (σ' : M), trS x.c vars st t = true → exS x.c cf st ρ σ = some (fl, ρ', σ') → σ.mem.length < 2 ^ 62 → σ'.mem.length < 2 ^ 62 ∧ WS x A env vars (exec t env) ρ σ fl ρ' σ'
noncomputable def SSs (st : Ss) : Prop := ∀ (t : List Stmt) (ρ : Loc) (σ : M) (fl : Fl) (ρ' : Loc) (σ' : M), trSs x.c vars st t = true → exSs x.c cf st ρ σ = some (fl, ρ', σ') → σ.mem.length < 2 ^ 62 → σ'.mem.length < 2 ^ 62 ∧ WS x A env vars (execs t env) ρ σ fl ρ' σ'
end
section
variable {x : Cx} (O : Ok x) (Z : Small x) {A : Around} {env : Env} {vars : List Str} (EO : EnvOk env vars) {cf : Nat → List V → M → Option (V × M)} (B : Below x A cf)
theorem truthy_of {s : Shared} {v : V} {y : Value} {b : Bool} {Q : Bool → Shared → Prop} {E' : Value → Shared → Prop} (r : Rp x s.heap v y) (t : truth v = some b) (h : Q b s) : wpAny (model x.prog x.w) A (truthy y) Q E' s := by
  cases v <;> cases t
  · obtain ⟨u, rfl⟩ := r; exact PyProof.Rows.truthy_int h
  · obtain rfl := r; exact wpAny_truthy_bool h
  · obtain rfl := r; exact truthy_none h
theorem exS_asgM {c : Cls} {i e : E} {ρ : Loc} {σ : M} : exS c cf (.asgM i e) ρ σ = onI (evE c cf ρ e σ) fun x σ₁ => cond σ₁.hm (onI (evE c cf ρ i σ₁) fun k σ₂ => (putAt σ₂.mem k x).map fun l => (.next, ρ, { σ₂ with mem := l })) none := rfl
theorem plainT_is {ex : PySem.Expr} (h : plainT ex = true) : isTrue ex env (eval ex env) = (do let v ← eval ex env; standAt ex.pos; holding [v] (truthy v)) := by
  cases ex <;> first | rfl | injection h
include O Z EO B in
theorem sound_T {ρ : Loc} (e : E) (ex : PySem.Expr) (σ : M) (v : V) (σ' : M) (b : Bool) (ht : trE x.c vars e ex = true) (hp : (cmpE e || plainT ex) = true) (he : evE x.c cf ρ e σ = some (v, σ')) (hb : truth v = some b) (hz : σ.mem.length < 2 ^ 62) : ∀ (s : Shared) (Q : Bool → Shared → Prop) (E' : Value → Shared → Prop),
    Mr x σ s.heap → Lr x env vars ρ s.heap → (∀ s', Mr x σ' s'.heap → Lr x env vars ρ s'.heap → Kp [x.D, x.L] s s' → Q b s') → wpAny (model x.prog x.w) A (isTrue ex env (eval ex env)) Q E' s := by
  have bb : ∀ {c : Bool}, v = .bool c → b = c := fun q => by rw [q] at hb; (injection hb with hb; subst hb); rfl
  cases q : cmpE e with
  | false =>
    rw [q] at hp
    exact fun s Q E' R l h => isTrue_plain ((sound_E O Z EO B e ex σ v σ' ht he hz).2 s _ _ R l fun y s' R' l' r k => truthy_of r hb (h s' R' l' k)) (plainT_is hp)
  | true =>
    cases e <;> cases q
    · obtain ⟨el, er, p, c, rfl, hp, hv, z, w⟩ := e_cmp2 (sound_E O Z EO B _) (sound_E O Z EO B _) ht he hz
      obtain rfl := bb hv
      exact fun s Q E' R l h => wpAny_isTrue_Compare1 (w s _ _ R l fun s' R' l' k' => wpAny_truthy_bool (h s' R' l' k')) (plain_marks hp _)
    · obtain ⟨n, p, k, q, p', c, rfl, hv, rfl, w⟩ := e_isNone2 (A := A) (env := env) EO ht he
      obtain rfl := bb hv
      exact fun s Q E' R l h => wpAny_isTrue_Compare1 (w s _ _ R l (wpAny_truthy_bool (h s R l .refl))) rfl
    · obtain ⟨l, k, q, p', c, rfl, hv, rfl, w⟩ := e_isNoneF2 (A := A) (env := env) O EO ht he
      obtain rfl := bb hv
      exact fun s Q E' R l h => wpAny_isTrue_Compare1 (w s _ _ R l (wpAny_truthy_bool (h _ R l .tok))) rfl
theorem Kp.more {a b c : Addr} {s s' : Shared} (k : Kp [a, b] s s') : Kp [a, b, c] s s' := k.mono fun d hd => by
  rcases List.mem_cons.mp hd with h | h
  · exact h ▸ .head _
  · exact (List.mem_singleton.mp h) ▸ .tail _ (.head _)
theorem set_len {σ σ' : M} {f : Fld} {v : V} (h : σ.set f v = some σ') : σ'.mem.length = σ.mem.length := by rw [(M.get_set h).1]
theorem put_len {l l' : List Int} {k v : Int} (h : putAt l k v = some l') : l'.length = l.length := by
  obtain ⟨_, e⟩ := ite_of h
  (injection e with e; subst e)
  exact List.length_set
include O Z EO B
theorem s_expr (hi : interactive env = false) (e : E) : SS x A env vars cf (.expr e) := fun t ρ σ fl ρ' σ' ht he hz => by
  obtain ⟨ex, p, rfl, hp, hx⟩ := ts_expr ht
  obtain ⟨⟨v, σ₁⟩, h1, e1⟩ := map_of he
  cases e1
  obtain ⟨z1, w1⟩ := sound_E O Z EO B e ex σ _ _ hx h1 hz
  exact ⟨z1, fun s Q E' R l h => wpAny_Expr_any (w1 s _ _ R l fun y s' R' l' r k => h _ s' R' l' rfl k.more) hi (plain_swaps hp _ _ _)⟩
theorem s_asgV (v : Nat) (e : E) : SS x A env vars cf (.asgV v e) := fun t ρ σ fl ρ' σ' ht he hz => by
  obtain ⟨n, q, ex, p, rfl, h0, hv, hp, hx⟩ := ts_asgV ht
  obtain ⟨⟨u, σ₁⟩, h1, e1⟩ := bind_of he
  obtain ⟨_, e2⟩ := ite_of e1
  (injection e2 with e2; injection e2 with e2 hz; subst e2; cases hz)
  obtain ⟨z1, w1⟩ := sound_E O Z EO B e ex σ _ _ hx h1 hz
  exact ⟨z1, fun s Q E' R l h => wpAny_Assign_Name (w1 s _ _ R l fun y s' R' l' r k => store_var EO R' l' (isVar_of hv) h0 r fun s₂ R₂ l₂ k₂ => h _ s₂ R₂ l₂ rfl (k.more.trans k₂)) (plain_swaps hp _ _ _)⟩
theorem s_asgF (f : Fld) (e : E) : SS x A env vars cf (.asgF f e) := fun t ρ σ fl ρ' σ' ht he hz => by
  obtain ⟨b, q, ex, p, rfl, hb, hp, hx⟩ := ts_asgF ht
  obtain ⟨bp, rfl⟩ := isSelf_of hb
  obtain ⟨⟨u, σ₁⟩, h1, e1⟩ := bind_of he
  obtain ⟨u', hu, e2⟩ := bind_of e1
  obtain ⟨rfl, nu, fl⟩ := V.flat_of hu
  refine map_el e2 fun σ₂ h2 e3 => ?_
  cases e3
  obtain ⟨z1, w1⟩ := sound_E O Z EO B e ex σ _ _ hx h1 hz
  exact ⟨by rw [set_len h2]; exact z1, fun s Q E' R l h => plainObj_wpAny_Assign_Attribute (w1 s _ _ R l fun y s₁ R₁ l₁ r₁ k₁ => load_self EO R₁ l₁ (set_fld O R₁ h2 nu (fun h' => fl _ _ h' _ r₁) fun s₂ R₂ k₂ _ => h _ s₂ R₂ (l₁.keeps R₁ k₂.away) rfl (k₁.trans k₂).more)) (plain_swaps hp _ _ _)⟩
theorem s_asgM (i e : E) : SS x A env vars cf (.asgM i e) := fun t ρ σ fl ρ' σ' ht he hz => by
  obtain ⟨b, q, ei, r, ex, p, rfl, hb, hpi, hp, hxi, hx⟩ := ts_asgM ht
  obtain ⟨bp, rfl⟩ := isSelf_of hb
  obtain ⟨v, σ₁, h1, e1⟩ := onI_of (exS_asgM.symm.trans he)
  obtain ⟨hm, e1⟩ := cond_of e1
  obtain ⟨k, σ₂, h2, e2⟩ := onI_of e1
  refine map_el e2 fun ns h3 e3 => ?_
  cases e3
  obtain ⟨z1, w1⟩ := sound_E O Z EO B e ex σ _ _ hx h1 hz
  obtain ⟨z2, w2⟩ := sound_E O Z EO B i ei σ₁ _ _ hxi h2 z1
  refine ⟨by show ns.length < _; rw [put_len h3]; exact z2, fun s Q E' R l h => wpAny_Assign_Subscript (w1 s _ _ R l fun y s₁ R₁ l₁ r₁ k₁ => Attribute_Name_ (load_self EO R₁ l₁ (get_fld O R₁ .mem (hm_get hm ▸ fun q => nomatch q) fun y₁ ry => ?_))) (plain_swaps hp _ _ _)⟩
  obtain rfl : y₁ = .ref x.L := (hm_get hm ▸ ry :)
  refine w2 _ _ _ R₁ l₁ fun y₂ s₂ R₂ l₂ r₂ k₂ => ?_
  obtain ⟨t1, rfl⟩ := r₁
  obtain ⟨t2, rfl⟩ := r₂
  exact store_mem O R₂ h3 z2 fun s₃ R₃ k₃ => h _ s₃ R₃ (l₂.keeps R₂ k₃.away) rfl ((k₁.trans (Kp.tok.trans k₂)).trans k₃).more
theorem s_augV (v : Nat) (op : BOp) (e : E) : SS x A env vars cf (.augV v op e) := fun t ρ σ fl ρ' σ' ht he hz => by
  obtain ⟨n, q, ex, p, rfl, h0, hv, hx⟩ := ts_augV ht
  refine bind_el he fun u hu e0 => ?_
  refine bind_el e0 fun a ha e1 => ?_
  clear e0
  cases V.int?_of ha
  obtain ⟨b, σ₁, h1, e1⟩ := onI_of e1
  refine bind_el e1 fun r h2 e2 => ?_
  obtain ⟨_, e2⟩ := ite_of e2
  (injection e2 with e2; injection e2 with e2 hz; subst e2; cases hz)
  obtain ⟨z1, w1⟩ := sound_E O Z EO B e ex σ _ _ hx h1 hz
  refine ⟨z1, fun s Q E' R l h => wpAny_AugAssign_Name ?_⟩
  obtain ⟨m, ns, rs⟩ := l.ns
  obtain ⟨y, ey, ry⟩ := rs v n _ (isVar_of hv) hu
  refine wpAny_loadName_local EO.kind (EO.loc n (List.mem_of_getElem? (isVar_of hv))) ns ey (w1 s _ _ R l fun y₁ s₁ R₁ l₁ r₁ k₁ => ?_)
  obtain ⟨t1, rfl⟩ := ry
  obtain ⟨t2, rfl⟩ := r₁
  exact BOp.inplace h2 (store_var (s := { s₁ with toks := s₁.toks + 1 }) EO R₁ l₁ (isVar_of hv) h0 (u := .int r) ⟨_, rfl⟩ fun s₂ R₂ l₂ k₂ => h _ s₂ R₂ l₂ rfl ((k₁.trans Kp.tok).more.trans k₂))
theorem s_augF (f : Fld) (op : BOp) (e : E) : SS x A env vars cf (.augF f op e) := fun t ρ σ fl ρ' σ' ht he hz => by
  obtain ⟨b, q, ex, p, rfl, hb, hx⟩ := ts_augF ht
  obtain ⟨bp, rfl⟩ := isSelf_of hb
  refine bind_el he fun a ha e1 => ?_
  have ha := V.int?_of ha
  obtain ⟨b, σ₁, h1, e1⟩ := onI_of e1
  refine bind_el e1 fun r h2 e2 => ?_
  refine map_el e2 fun σ₂ h3 e3 => ?_
  cases e3
  obtain ⟨z1, w1⟩ := sound_E O Z EO B e ex σ _ _ hx h1 hz
  refine ⟨by rw [set_len h3]; exact z1, fun s Q E' R l h => wpAny_AugAssign_AttributeAny (load_self EO R l (get_fld O R f (ha ▸ fun q => nomatch q) fun y ry => w1 _ _ _ R l fun y₁ s₁ R₁ l₁ r₁ k₁ => ?_))⟩
  obtain ⟨t1, rfl⟩ : Rp x s.heap (.int a) y := ha ▸ ry
  obtain ⟨t2, rfl⟩ := r₁
  exact BOp.inplace h2 (set_fld (s := { s₁ with toks := s₁.toks + 1 }) O R₁ h3 (fun q => nomatch q) (fun _ => ⟨_, rfl⟩) fun s₂ R₂ k₂ _ => h _ s₂ R₂ (l₁.keeps R₁ k₂.away) rfl ((((Kp.tok.trans k₁).trans Kp.tok)).trans k₂).more)
theorem s_iteM {t : E} {a b : Ss} (ga : SSs x A env vars cf a) (gb : SSs x A env vars cf b) : SS x A env vars cf (.ite t a b) := fun st ρ σ fl ρ' σ' ht he hz => by
  obtain ⟨ex, tl, tr, p, rfl, hp, hx, ha, hb⟩ := ts_ite ht
  obtain ⟨⟨v, σ₁⟩, h1, e1⟩ := bind_of he
  refine bind_el e1 fun q hv e1 => ?_
  have z1 := (sound_E O Z EO B t ex σ _ _ hx h1 hz).1
  have key : ∀ {st : Ss} {l : List Stmt}, SSs x A env vars cf st → trSs x.c vars st l = true → exSs x.c cf st ρ σ₁ = some (fl, ρ', σ') → (∀ {Q E' s}, wpAny (model x.prog x.w) A (execs l env) Q E' s → if q then wpAny (model x.prog x.w) A (execs tl env) Q E' s else wpAny (model x.prog x.w) A (execs tr env) Q E' s) → σ'.mem.length < 2 ^ 62 ∧ WS x A env vars (exec (.If ex tl tr p) env) ρ σ fl ρ' σ' := fun g hl e2 eq => by
    obtain ⟨z2, w2⟩ := g _ ρ σ₁ fl ρ' σ' hl e2 z1
    exact ⟨z2, fun s Q E' R l h => wpAny_If (sound_T O Z EO B t ex σ v σ₁ q hx hp h1 hv hz s _ _ R l fun s₁ R₁ l₁ k₁ => eq (w2 s₁ _ _ R₁ l₁ fun f s₂ R₂ l₂ r₂ k₂ => h f s₂ R₂ l₂ r₂ (k₁.more.trans k₂)))⟩
  cases q
  · exact key gb hb e1 fun h => h
  · exact key ga ha e1 fun h => h
theorem s_retM (e : E) : SS x A env vars cf (.ret e) := fun t ρ σ fl ρ' σ' ht he hz => by
  obtain ⟨ex, p, rfl, hx⟩ := ts_ret ht
  obtain ⟨⟨v, σ₁⟩, h1, e1⟩ := map_of he
  cases e1
  obtain ⟨z1, w1⟩ := sound_E O Z EO B e ex σ _ _ hx h1 hz
  exact ⟨z1, fun s Q E' R l h => wpAny_Return_some (w1 s _ _ R l fun y s' R' l' r k => h _ s' R' l' ⟨y, rfl, r⟩ k.more)⟩
omit O Z EO B in
theorem s_ret0 : SS x A env vars cf .ret0 := fun t ρ σ fl ρ' σ' ht he hz => by
  obtain ⟨p, rfl⟩ := ts_ret0 ht
  (injection he with he; injection he with he hz; subst he; cases hz)
  exact ⟨hz, fun s Q E' R l h => wpAny_Return_none (h _ s R l ⟨_, rfl, rfl⟩ .refl)⟩
omit O Z EO B in
theorem s_passM : SS x A env vars cf .pass := fun t ρ σ fl ρ' σ' ht he hz => by
  obtain ⟨p, rfl⟩ := ts_pass ht
  (injection he with he; injection he with he hz; subst he; cases hz)
  exact ⟨hz, fun s Q E' R l h => wpAny_Pass (h _ s R l rfl .refl)⟩
omit O Z EO B in
theorem ss_nilM : SSs x A env vars cf .nil := fun t ρ σ fl ρ' σ' ht he hz => by
  cases t <;> cases ht
  (injection he with he; injection he with he hz; subst he; cases hz)
  exact ⟨hz, fun s Q E' R l h => wpAny_execs_nil (h _ s R l rfl .refl)⟩
omit O Z EO B in
theorem ss_consM {a : S} {r : Ss} (ga : SS x A env vars cf a) (gr : SSs x A env vars cf r) : SSs x A env vars cf (.cons a r) := fun t ρ σ fl ρ' σ' ht he hz => by
  cases t with
  | nil => injection ht
  | cons st rest =>
    refine and_el ht fun h1 h2 => ?_
    obtain ⟨⟨f, ρ₁, σ₁⟩, h3, e3⟩ := bind_of he
    obtain ⟨z1, w1⟩ := ga st ρ σ f ρ₁ σ₁ h1 h3 hz
    cases f with
    | next =>
      obtain ⟨z2, w2⟩ := gr rest ρ₁ σ₁ fl ρ' σ' h2 e3 z1
      refine ⟨z2, fun s Q E' R l h => wpAny_execs_cons (w1 s _ _ R l fun f s₁ R₁ l₁ r₁ k₁ => ?_)⟩
      obtain rfl := r₁
      exact w2 s₁ _ _ R₁ l₁ fun f s₂ R₂ l₂ r₂ k₂ => h f s₂ R₂ l₂ r₂ (k₁.trans k₂)
    | ret v =>
      (injection e3 with e3; injection e3 with e3 hz; subst e3; cases hz)
      refine ⟨z1, fun s Q E' R l h => wpAny_execs_cons (w1 s _ _ R l fun f s₁ R₁ l₁ r₁ k₁ => ?_)⟩
      obtain ⟨y, rfl, ry⟩ := r₁
      exact h _ s₁ R₁ l₁ ⟨y, rfl, ry⟩ k₁
mutual
theorem sound_S (hi : interactive env = false) : ∀ st : S, SS x A env vars cf st
  | .expr e => s_expr O Z EO B hi e
  | .asgV v e => s_asgV O Z EO B v e
  | .asgF f e => s_asgF O Z EO B f e
  | .asgM i e => s_asgM O Z EO B i e
  | .augV v op e => s_augV O Z EO B v op e
  | .augF f op e => s_augF O Z EO B f op e
  | .ite _ a b => s_iteM O Z EO B (sound_Ss hi a) (sound_Ss hi b)
  | .ret e => s_retM O Z EO B e
  | .ret0 => s_ret0
  | .pass => s_passM
theorem sound_Ss (hi : interactive env = false) : ∀ st : Ss, SSs x A env vars cf st
  | .nil => ss_nilM
  | .cons a r => ss_consM (sound_S hi a) (sound_Ss hi r)
end
end
end Mine

end
section
open PySem PySem.W PyProof.Rows
set_option maxRecDepth 100000
namespace Mine
theorem lookup_nodup {β : Type} : ∀ {l : List (Str × β)} {n : Str} {y : β}, (l.map (·.1)).Nodup → (n, y) ∈ l → l.lookup n = some y
  | (k, z) :: l, n, y, nd, h => by
    rw [List.map_cons, List.nodup_cons] at nd
    rcases List.mem_cons.mp h with e | h
    · cases e; rw [List.lookup_cons, beq_self_eq_true]
    · have : n ≠ k := fun q => nd.1 (by rw [← q]; exact List.mem_map_of_mem (f := (·.1)) h)
      rw [List.lookup_cons, beq_eq_false_iff_ne.mpr this]
      exact lookup_nodup nd.2 h
theorem Rps.length {x : Cx} {h : Heap} : ∀ {vs : List V} {ys : List Value}, Rps x h vs ys → ys.length = vs.length
  | _, _, .nil => rfl
  | _, _, .cons _ r => by rw [List.length_cons, List.length_cons, r.length]
theorem Rps.at {x : Cx} {h : Heap} : ∀ {vs : List V} {ys : List Value} (_ : Rps x h vs ys) (i : Nat) (v : V), vs[i]? = some v → ∃ y, ys[i]? = some y ∧ Rp x h v y
  | _, _, .cons r _, 0, v, e => by (injection e with e; subst e); exact ⟨_, rfl, r⟩
  | _, _, .cons _ r, i + 1, v, e => by simpa using r.at i v (by simpa using e)
  | _, _, .nil, _, _, e => by simp at e
theorem Rps.grow {x : Cx} {σ : M} {h h' : Heap} (R : Mr x σ h) (k : ∀ b o, h.get? b = some o → h'.get? b = some o) : ∀ {vs : List V} {ys : List Value}, Rps x h vs ys → Rps x h' vs ys
  | _, _, .nil => .nil
  | _, _, .cons r t => .cons (r.keeps R fun b o e _ => k b o e) (t.grow R k)

theorem loc_start {args : List V} {k i : Nat} {u : V} (h : Loc.at ((some V.self :: args.map some) ++ List.replicate k none) i = some u) : (V.self :: args)[i]? = some u := by
  unfold Loc.at at h
  have e : (some V.self :: args.map some) = (V.self :: args).map some := rfl
  rw [e] at h
  by_cases q : i < (V.self :: args).length
  · rw [List.getElem?_append_left (by rw [List.length_map]; exact q), List.getElem?_map] at h
    cases z : (V.self :: args)[i]? with
    | none => rw [z] at h; injection h
    | some w => rw [z] at h; simpa using h
  · rw [List.getElem?_append_right (by rw [List.length_map]; lia), List.getElem?_replicate] at h
    split at h <;> injection h
section
variable {x : Cx} (O : Ok x) (Z : Small x)
theorem env_ok {m : Nat} {md : MethD} (mo : MethOk x m md) {fd : FuncData} (hk : fd.scope.kind = .function) (hl : ∀ v ∈ md.vars, fd.scope.names.lookup v = some .local) (L a : Addr) : EnvOk (callEnv fd L a) md.vars :=
  ⟨hk, hl, mo.nodup, mo.nodbg, mo.self⟩
theorem call_parts {x : Cx} {d m : Nat} {args : List V} {σ : M} {v : V} {σ' : M} (he : callM x.c (d + 1) m args σ = some (v, σ')) : ∃ md fl ρ', x.c.P[m]? = some md ∧ args.length + 1 = md.np ∧
        exSs x.c (callM x.c d) md.body ((some V.self :: args.map some) ++ List.replicate (md.vars.length - md.np) none) σ = some (fl, ρ', σ') ∧ fl.out = v := by
  refine bind_el he fun md hm he => ?_
  obtain ⟨hn, he⟩ := ite_of he
  obtain ⟨⟨fl, ρ', σ₁⟩, h, e⟩ := map_of he
  cases e
  exact ⟨md, fl, ρ', hm, hn, h, rfl⟩
include O Z in
theorem call_args {d : Nat} {A : Around} (hd : A.depth + (d + 1) ≤ recursionLimit) (Bd : ∀ A' : Around, A'.depth + d ≤ recursionLimit → Below x A' (callM x.c d)) {m : Nat} {args : List V} {σ : M} {v : V} {σ' : M} (he : callM x.c (d + 1) m args σ = some (v, σ'))
    {as : Args} {vals : List Value} {s : Shared} {R : Result → Shared → Prop} (hbind : ∀ (fd : FuncData) (md : MethD), x.c.P[m]? = some md → x.K.lookup (x.fnA m) = some ⟨.type "function", none, .func fd, #[]⟩ → (Value.ref x.I :: vals).length = md.np → BindsTo s fd as ((md.vars.take md.np).zip (.ref x.I :: vals)))
    (Rm : Mr x σ s.heap) (rps : Rps x s.heap args vals) (post : ∀ y s', Mr x σ' s'.heap → Rp x s'.heap v y → Kp [x.D, x.L] s s' → R (.ok (.ret y)) s') : codeAny (model x.prog x.w) A (.call (.ref (x.fnA m)) as) R s := by
  refine Classical.byContradiction fun hHid => ?_
  obtain ⟨md, fl, ρ', hm, hn, hx, hv⟩ := call_parts he
  have mo := O.meth m md hm
  obtain ⟨fd, b, hk, hb, ht, k1, k2, k3, k4, k5, k6, k7⟩ := mo.fd
  have hlen : (Value.ref x.I :: vals).length = md.np := by rw [List.length_cons, rps.length]; exact hn
  have XI := X' O Rm
  refine hHid ?_
  clear hHid
  refine codeAny_call_def (fd := fd) (body := b) (binds := (md.vars.take md.np).zip (.ref x.I :: vals)) (by lia) (XI _ _ hk) rfl (O.lim.keeps Rm.stays) (codeRec_of XI k6) hb (hbind fd md hm hk hlen) k4 ?_ (fun h₁ ns hk₁ => ?_) k3 k2 k1
  · intro y hy
    exact k5 _ (List.mem_of_mem_take (List.of_mem_zip hy).1)
  · have Bd := Bd (A.deeper (callEnv fd s.heap.objs.size (x.fnA m))) (by show A.depth + 1 + d ≤ _; lia)
    have EO := env_ok mo k1 k5 s.heap.objs.size (x.fnA m)
    have hz := Rm.sz
    have hi : interactive (callEnv fd s.heap.objs.size (x.fnA m)) = false := by
      show (fd.scope.kind == .module && _) = false
      rw [k1]; rfl
    have w := (sound_Ss O Z EO Bd hi md.body b _ σ fl ρ' σ' ht hx hz).2
    have R₁ : Mr x σ h₁ := Rm.grow hk₁
    refine w _ _ _ R₁ ?_ fun f s' R' l' r' k' => ?_
    · obtain ⟨mD, nD, _⟩ := Rm.ns
      obtain ⟨its, ⟨oL, _, eL, _⟩, _⟩ := Rm.mem
      refine ⟨⟨_, ns, fun i n u hi hu => ?_⟩, Ne.symm (Nat.ne_of_lt nD.lt), Ne.symm (Nat.ne_of_lt (Heap.lt_size eL)), Ne.symm (Nat.ne_of_lt (Heap.lt_size Rm.inst)), ?_, ?_, rfl⟩
      · have hu' : (V.self :: args)[i]? = some u := loc_start hu
        obtain ⟨y, hy, ry⟩ := (Rps.cons (x := x) (h := s.heap) (v := .self) rfl rps).at i u hu'
        refine ⟨y, ?_, ry.keeps Rm fun b o e _ => hk₁ b o e⟩
        have hil : i < md.np := by rw [← hlen]; exact (List.getElem?_eq_some_iff.mp hy).1
        refine lookup_nodup ?_ (List.mem_reverse.mpr ?_)
        · rw [List.map_reverse]
          refine List.pairwise_reverse.mpr (List.Pairwise.imp (fun h => Ne.symm h) ?_)
          exact (List.Sublist.nodup · mo.nodup) (((List.map_fst_zip (l₁ := md.vars.take md.np) (l₂ := Value.ref x.I :: vals) (by rw [hlen, List.length_take]; lia)).symm ▸ List.take_sublist _ _))
        · refine List.mem_of_getElem? (i := i) ?_
          rw [List.getElem?_zip_eq_some]
          exact ⟨by rw [List.getElem?_take_of_lt hil]; exact hi, hy⟩
      · cases q : x.h₀.get? s.heap.objs.size with
        | none => exact q
        | some o => exact absurd (Heap.lt_size (Rm.stays _ _ q)) (Nat.lt_irrefl _)
      · have := mo.npLe
        simp only [List.length_append, List.length_cons, List.length_map, List.length_replicate]
        lia
    · have kk : Kp [x.D, x.L] s s' := by
        obtain ⟨h', t', rfl, aw⟩ := k'
        refine ⟨h', t', rfl, fun b o e q => aw b o (hk₁ b o e) fun z => ?_⟩
        simp only [List.mem_cons, List.not_mem_nil, or_false, not_or] at q z
        rcases z with z | z | z
        · exact q.1 z
        · exact q.2 z
        · exact absurd (Heap.lt_size e) (by rw [z]; exact Nat.lt_irrefl _)
      cases fl with
      | next => obtain rfl := r'; subst hv; exact post _ s' R' rfl kk
      | ret u => obtain ⟨y, rfl, ry⟩ := r'; subst hv; exact post _ s' R' ry kk
include O Z in
theorem sound_call : ∀ (d : Nat) (A : Around), A.depth + d ≤ recursionLimit → Below x A (callM x.c d)
  | 0, A, _ => by
    have no : ∀ m args σ, callM x.c 0 m args σ = none := fun _ _ _ => rfl
    exact ⟨fun _ _ _ _ _ he => (by rw [no] at he; injection he), fun _ _ _ _ he => (by rw [no] at he; injection he), fun _ _ _ _ _ he => (by rw [no] at he; injection he)⟩
  | d + 1, A, hd => by
    refine ⟨fun m args σ v σ' he s vals R Rm rps post => ?_, fun m args σ r he => ?_, fun m args σ v σ' he hz => ?_⟩
    · refine call_args O Z hd (fun A' h => sound_call d A' h) he (vals := vals) (fun fd md hm hk hlen => ?_) Rm rps post
      obtain ⟨fd', b, hk', _, _, _, _, _, _, _, _, k7⟩ := (O.meth m md hm).fd
      rw [hk] at hk'; cases hk'
      exact k7 _ _ (X' O Rm) hlen
    · obtain ⟨v, σ'⟩ := r
      obtain ⟨md, _, _, hm, _⟩ := call_parts he
      exact ⟨md, hm⟩
    · obtain ⟨md, fl, ρ', hm, hn, hx, hv⟩ := call_parts he
      have mo := O.meth m md hm
      obtain ⟨fd, b, hk, hb, ht, k1, k2, k3, k4, k5, k6, k7⟩ := mo.fd
      have Bd := sound_call d (A.deeper (callEnv fd 0 (x.fnA m))) (by show A.depth + 1 + d ≤ _; lia)
      have hi : interactive (callEnv fd 0 (x.fnA m)) = false := by
        show (fd.scope.kind == .module && _) = false
        rw [k1]; rfl
      exact (sound_Ss O Z (env_ok mo k1 k5 0 (x.fnA m)) Bd hi md.body b _ σ fl ρ' σ' ht hx hz).1
end
end Mine

end
section
open PySem PySem.W PyProof.Rows
set_option linter.unusedVariables false
set_option maxRecDepth 100000
namespace Mine
inductive At where
  | int (i : Int) | bool (b : Bool) | none | ints (xs : List Int)
inductive LV where
  | at (a : At)
  | tup (xs : List At)
  | rows (xs : List (List At))
  | lists (xs : List (List Int))
  | own (xs : List Int)
  | ownR (xs : List (List At))
  | mpu (σ : M) (mv : Nat)
noncomputable abbrev LV.int (i : Int) : LV := .at (.int i)
noncomputable abbrev LV.bool (b : Bool) : LV := .at (.bool b)
noncomputable abbrev LV.ints (xs : List Int) : LV := .at (.ints xs)
inductive LOp where
  | add | sub | mul | fdiv | mod | pow
  deriving DecidableEq
mutual
inductive LE where
  | int (i : Int)
  | bool (b : Bool)
  | none
  | var (v : Nat)
  | own (v : Nat)
  | bin (op : LOp) (a b : LE)
  | neg (a : LE)
  | cmp (op : COp) (a b : LE)
  | and (a b : LE)
  | not (a : LE)
  | cmp2 (o p : COp) (a b d : LE)
  | or3 (a b d : LE)
  | ife (t a b : LE)
  | idx (a i : LE)
  | slc (a lo hi : LE)
  | len (a : LE)
  | rev (a : LE)
  | disp (es : LEs)
  | tup (es : LEs)
  | attr (v : Nat) (f : Fld)
  | divm (a b : LE)
  | call (f : Nat) (es : LEs)
  | comp (elt : LE) (caps : List Nat) (src : LSrc)
  | compT (tg : List Str) (elts : LEs) (src : LSrc)
inductive LEs where
  | nil
  | cons (e : LE) (r : LEs)
inductive LSrc where
  | rng (e : LE)
  | lst (e : LE)
end
inductive LTg where
  | one (v : Nat)
  | many (vs : List Nat)
mutual
inductive LS where
  | asg (v : Nat) (e : LE)
  | newl (v : Nat) (e : LE)
  | asgU (vs : List Nat) (e : LE)
  | step (v m : Nat)
  | mk (v mv : Nat) (e : LE)
  | ite (t : LE) (a b : LSs)
  | frz (v : Nat) (s : LS)
  | for (tg : LTg) (src : LSrc) (b : LSs)
  | forE (vs : List Nat) (e : LE) (b : LSs)
  | brk
  | ret (e : LE)
  | reto (v : Nat)
  | slp (v : Nat) (lo hi e : LE)
  | newR (v : Nat)
  | appR (v : Nat) (es : LEs)
  | app (v : Nat) (e : LE)
inductive LSs where
  | nil
  | cons (s : LS) (r : LSs)
end
noncomputable def lim : Nat := 2 ^ 20

noncomputable def LOp.ev : LOp → Int → Int → Option Int
  | .add, a, b => some (a + b)
  | .sub, a, b => some (a - b)
  | .mul, a, b => if a.natAbs < 2 ^ 63 ∨ b.natAbs < 2 ^ 63 then some (a * b) else Option.none
  | .fdiv, a, b => if b ≠ 0 ∧ b.natAbs < 1073741824 then some (a.fdiv b) else Option.none
  | .mod, a, b => if b ≠ 0 then some (a.fmod b) else Option.none
  | .pow, a, b => if 0 ≤ b ∧ b ≤ 64 ∧ a.natAbs < 2 ^ 64 then some (a ^ b.toNat) else Option.none
section
variable {α β : Type}
noncomputable def mapO (f : α → Option β) : List α → Option (List β)
  | [] => some []
  | a :: l => (f a).bind fun b => (mapO f l).map fun r => b :: r
noncomputable def alt (o : Option α) (f : α → Option β) (g : Option β) : Option β := match o with
  | some a => f a
  | Option.none => g
theorem alt_of {o : Option α} {f : α → Option β} {g : Option β} {r : β} (h : alt o f g = some r) : (∃ a, o = some a ∧ f a = some r) ∨ g = some r := by
  cases o with
  | none => exact .inr h
  | some a => exact .inl ⟨a, rfl, h⟩
end
noncomputable def LV.int? : LV → Option Int
  | .at (.int i) => some i
  | _ => Option.none
noncomputable def LV.bool? : LV → Option Bool
  | .at (.bool i) => some i
  | _ => Option.none
noncomputable def LV.at? : LV → Option At
  | .at a => some a
  | _ => Option.none
noncomputable def LV.tup? : LV → Option (List At)
  | .tup xs => some xs
  | _ => Option.none
noncomputable def LV.ints? : LV → Option (List Int)
  | .at (.ints xs) => some xs
  | _ => Option.none
noncomputable def LV.rows? : LV → Option (List (List At))
  | .rows xs => some xs
  | _ => Option.none
noncomputable def LV.lists? : LV → Option (List (List Int))
  | .lists xs => some xs
  | _ => Option.none
noncomputable def LV.own? : LV → Option (List Int)
  | .own xs => some xs
  | _ => Option.none
noncomputable def LV.ownR? : LV → Option (List (List At))
  | .ownR xs => some xs
  | _ => Option.none
noncomputable def LV.mpu? : LV → Option (M × Nat)
  | .mpu σ mv => some (σ, mv)
  | _ => Option.none
noncomputable def stable : LV → Bool
  | .own _ => false
  | .ownR _ => false
  | .mpu _ _ => false
  | _ => true
noncomputable def Ow : LV → Bool
  | .own _ => true
  | .ownR _ => true
  | _ => false
theorem LV.int?_of {x : LV} {i : Int} (h : x.int? = some i) : x = .int i := by
  cases x with
  | «at» a => cases a <;> cases h; rfl
  | _ => injection h
theorem LV.bool?_of {x : LV} {i : Bool} (h : x.bool? = some i) : x = .bool i := by
  cases x with
  | «at» a => cases a <;> cases h; rfl
  | _ => injection h
theorem LV.ints?_of {x : LV} {i : List Int} (h : x.ints? = some i) : x = .ints i := by
  cases x with
  | «at» a => cases a <;> cases h; rfl
  | _ => injection h
theorem LV.at?_of {x : LV} {i : At} (h : x.at? = some i) : x = .at i := by cases x <;> cases h; rfl
theorem LV.tup?_of {x : LV} {i : List At} (h : x.tup? = some i) : x = .tup i := by cases x <;> cases h; rfl
theorem LV.rows?_of {x : LV} {i : List (List At)} (h : x.rows? = some i) : x = .rows i := by cases x <;> cases h; rfl
theorem LV.lists?_of {x : LV} {i : List (List Int)} (h : x.lists? = some i) : x = .lists i := by cases x <;> cases h; rfl
theorem LV.own?_of {x : LV} {i : List Int} (h : x.own? = some i) : x = .own i := by cases x <;> cases h; rfl
theorem LV.ownR?_of {x : LV} {i : List (List At)} (h : x.ownR? = some i) : x = .ownR i := by cases x <;> cases h; rfl
theorem LV.mpu?_of {x : LV} {p : M × Nat} (h : x.mpu? = some p) : x = .mpu p.1 p.2 := by cases x <;> cases h; rfl
noncomputable abbrev asInt := LV.int?
noncomputable abbrev asAt := LV.at?
noncomputable abbrev asTup := LV.tup?
noncomputable abbrev asInts := LV.ints?
noncomputable def repeatL (xs : List Int) (n : Nat) : List Int := (List.replicate n xs).flatten
noncomputable def LV.rowsE? : LV → Option (List (List At))
  | .rows xs => some xs
  | .at (.ints []) => some []
  | _ => Option.none
theorem LV.rowsE?_of {x : LV} {i : List (List At)} (h : x.rowsE? = some i) : x = .rows i ∨ (x = .ints [] ∧ i = []) := by
  cases x with
  | rows xs => (injection h with h; subst h); exact .inl rfl
  | «at» a =>
    cases a with
    | «ints» l => cases l <;> cases h; exact .inr ⟨rfl, rfl⟩
    | _ => injection h
  | _ => injection h
noncomputable def orO {α : Type} (a b : Option α) : Option α := match a with
  | some x => some x
  | Option.none => b
theorem orO_of {α : Type} {a b : Option α} {r : α} (h : orO a b = some r) : a = some r ∨ b = some r := by
  cases a with
  | none => exact .inr h
  | some x => exact .inl h
noncomputable def binV (op : LOp) (x y : LV) : Option LV := alt x.int? (fun a => y.int?.bind fun b => (op.ev a b).map LV.int)
  (orO (x.ints?.bind fun xs => alt y.ints? (fun ys => if op = .add ∧ (xs ++ ys).length ≤ lim then some (.ints (xs ++ ys)) else Option.none)
    (y.int?.bind fun n => if op = .mul ∧ 0 ≤ n ∧ n ≤ lim ∧ xs.length * n.toNat ≤ lim then some (.ints (repeatL xs n.toNat)) else Option.none))
    (x.rowsE?.bind fun xs => y.rowsE?.bind fun ys => if op = .add ∧ (xs ++ ys).length ≤ lim then some (.rows (xs ++ ys)) else Option.none))
noncomputable def At.int? : At → Option Int
  | .int i => some i
  | _ => Option.none
theorem At.int?_of {x : At} {i : Int} (h : x.int? = some i) : x = .int i := by cases x <;> cases h; rfl
noncomputable def atsInts : List At → Option (List Int) := mapO At.int?
noncomputable def eqOp : COp → Bool → Option Bool
  | .eq, b => some b
  | .ne, b => some (!b)
  | _, _ => Option.none
noncomputable def cmpV (op : COp) (x y : LV) : Option Bool := alt x.int? (fun a => y.int?.map fun b => op.ev a b) (alt x.ints? (fun xs => y.ints?.bind fun ys => eqOp op (xs == ys))
  (x.tup?.bind fun xs => y.tup?.bind fun ys => (atsInts xs).bind fun a => (atsInts ys).bind fun b => eqOp op (a == b)))
noncomputable def truthL : LV → Option Bool
  | .at (.int i) => some (i != 0)
  | .at (.bool b) => some b
  | .at .none => some false
  | .at (.ints xs) => some (!xs.isEmpty)
  | _ => Option.none
noncomputable def pick {α : Type} (l : List α) (k : Int) : Option α := if 0 ≤ k then l[k.toNat]? else if 0 ≤ k + l.length then l[(k + l.length).toNat]? else Option.none
noncomputable def idxV (x y : LV) : Option LV := y.int?.bind fun k => alt x.ints? (fun xs => (pick xs k).map LV.int) (alt x.lists? (fun xs => (pick xs k).map LV.ints) (x.rows?.bind fun xs => (pick xs k).map LV.tup))
noncomputable def cutI (xs : List Int) (lo hi : Option Int) : List Int := (xs.drop (lo.elim 0 (clipAt xs.length))).take (hi.elim xs.length (clipAt xs.length) - lo.elim 0 (clipAt xs.length))
noncomputable def part : LV → Option (Option Int)
  | .at .none => some Option.none
  | .at (.int i) => some (some i)
  | _ => Option.none
noncomputable def slcV (x lo hi : LV) : Option LV := x.ints?.bind fun xs => (part lo).bind fun l => (part hi).map fun h => .ints (cutI xs l h)
noncomputable def dispV (vs : List LV) : Option LV := if vs.length ≤ lim then alt (mapO asInt vs) (fun xs => some (.ints xs)) (alt (mapO asTup vs) (fun xs => some (.rows xs)) ((mapO asInts vs).map LV.lists)) else Option.none
noncomputable abbrev LLoc := List (Option LV)
noncomputable def LLoc.at (ρ : LLoc) (v : Nat) : Option LV := (ρ[v]?).join
noncomputable def readV (ρ : LLoc) (v : Nat) : Option LV := (ρ.at v).bind fun x => cond (stable x) (some x) Option.none
noncomputable def maskL (caps : List Nat) (ρ : LLoc) : LLoc := (List.range ρ.length).map fun i => cond (caps.contains i) (readV ρ i) Option.none
noncomputable def srcItems (x : LV) : Option (List LV) := alt x.ints? (fun xs => some (xs.map LV.int)) (x.rows?.map fun xs => xs.map LV.tup)
noncomputable def rngItems (n : Int) : Option (List LV) := if -(2 ^ 40) ≤ n ∧ n ≤ lim then some ((List.range n.toNat).map fun i : Nat => LV.int (i : Int)) else Option.none

noncomputable def setL (ρ : LLoc) (v : Nat) (x : LV) : Option LLoc := if v < ρ.length then some (ρ.set v (some x)) else Option.none
noncomputable def free (ρ : LLoc) (v : Nat) : Bool := ρ.all fun o => (o.bind LV.mpu?).all fun p => !Nat.beq p.2 v
noncomputable def putV (ρ : LLoc) (v : Nat) (x : LV) : Option LLoc := cond (stable x && free ρ v) (setL ρ v x) Option.none
noncomputable def bindTs : List Nat → List At → LLoc → Option LLoc
  | [], [], ρ => some ρ
  | v :: vs, x :: xs, ρ => (putV ρ v (.at x)).bind fun ρ' => bindTs vs xs ρ'
  | _, _, _ => Option.none
section
variable (cf : Nat → List LV → Option LV)
mutual
noncomputable def evL : LE → LLoc → Option LV
  | .int i, _ => some (.int i)
  | .bool b, _ => some (.bool b)
  | .none, _ => some (.at .none)
  | .var v, ρ => readV ρ v
  | .own v, ρ => (ρ.at v).bind fun u => u.own?.map LV.ints
  | .bin op a b, ρ => (evL a ρ).bind fun x => (evL b ρ).bind fun y => binV op x y
  | .neg a, ρ => (evL a ρ).bind fun x => x.int?.map fun i => LV.int (-i)
  | .cmp op a b, ρ => (evL a ρ).bind fun x => (evL b ρ).bind fun y => (cmpV op x y).map LV.bool
  | .and a b, ρ => (evL a ρ).bind fun x => x.bool?.bind fun q => cond q (evL b ρ) (some (.bool false))
  | .cmp2 o p a b d, ρ => (evL a ρ).bind fun x => x.int?.bind fun i => (evL b ρ).bind fun y => y.int?.bind fun j => cond (o.ev i j) ((evL d ρ).bind fun z => z.int?.map fun k => LV.bool (p.ev j k)) (some (.bool false))
  | .or3 a b d, ρ => (evL a ρ).bind fun x => x.bool?.bind fun q => cond q (some (.bool true)) ((evL b ρ).bind fun y => y.bool?.bind fun r => cond r (some (.bool true)) (evL d ρ))
  | .not a, ρ => (evL a ρ).bind fun v => (truthL v).map fun b => LV.bool (!b)
  | .ife t a b, ρ => (evL t ρ).bind fun v => (truthL v).bind fun q => cond q (evL a ρ) (evL b ρ)
  | .idx a i, ρ => (evL a ρ).bind fun x => (evL i ρ).bind fun y => idxV x y
  | .slc a lo hi, ρ => (evL a ρ).bind fun x => (evL lo ρ).bind fun l => (evL hi ρ).bind fun h => slcV x l h
  | .len a, ρ => (evL a ρ).bind fun x => x.ints?.map fun xs => LV.int xs.length
  | .rev a, ρ => (evL a ρ).bind fun x => x.rowsE?.map fun xs => LV.rows xs.reverse
  | .disp es, ρ => (evLs es ρ).bind fun vs => dispV vs
  | .tup es, ρ => (evLs es ρ).bind fun vs => if vs.length ≤ lim then (mapO asAt vs).map LV.tup else Option.none
  | .attr v f, ρ => (ρ.at v).bind fun u => u.mpu?.bind fun p => (p.1.get f).int?.map LV.int
  | .divm a b, ρ => (evL a ρ).bind fun u => u.int?.bind fun x => (evL b ρ).bind fun w => w.int?.bind fun y => if y ≠ 0 ∧ y.natAbs < 1073741824 then some (.tup [.int (x.fdiv y), .int (x.fmod y)]) else Option.none
  | .call f es, ρ => (evLs es ρ).bind fun vs => cf f vs
  | .comp elt caps src, ρ => (evSrc src ρ).bind fun items => (mapO asInt items).bind fun _ => (mapO (fun it => (evL elt (maskL caps ρ ++ [some it])).bind LV.int?) items).map LV.ints
  | .compT tg elts src, ρ => (evSrc src ρ).bind fun items => (mapO (fun it => it.tup?.bind fun xs => (bindTs (List.range tg.length) xs (List.replicate tg.length Option.none)).bind fun ρ' => (evLs elts ρ').bind fun vs => if vs.length ≤ lim then mapO asAt vs else Option.none) items).map LV.rows
noncomputable def evLs : LEs → LLoc → Option (List LV)
  | .nil, _ => some []
  | .cons e r, ρ => (evL e ρ).bind fun v => (evLs r ρ).map fun vs => v :: vs
noncomputable def evSrc : LSrc → LLoc → Option (List LV)
  | .rng e, ρ => (evL e ρ).bind fun x => x.int?.bind fun n => rngItems n
  | .lst e, ρ => (evL e ρ).bind fun v => srcItems v
end
end

inductive LFl where
  | next | brk
  | ret (v : LV)
noncomputable def LFl.turn {β : Type} (fl : LFl) (ρ : LLoc) (rest : LLoc → Option β) (out : LFl → LLoc → β) : Option β := match fl with
  | .next => rest ρ
  | .brk => some (out .next ρ)
  | .ret v => some (out (.ret v) ρ)
noncomputable def putSl (xs : List Int) (lo hi : Option Int) (ys : List Int) : List Int := xs.take (lo.elim 0 (clipAt xs.length)) ++ ys ++ xs.drop (max (lo.elim 0 (clipAt xs.length)) (hi.elim xs.length (clipAt xs.length)))
noncomputable def putOwn (ρ : LLoc) (v : Nat) (xs : List Int) : Option LLoc := cond (free ρ v) (setL ρ v (.own xs)) Option.none
noncomputable def bindTg : LTg → LV → LLoc → Option LLoc
  | .one v, x, ρ => putV ρ v x
  | .many vs, x, ρ => x.tup?.bind fun xs => bindTs vs xs ρ
noncomputable def enumItems : Nat → List Int → List LV
  | _, [] => []
  | i, x :: l => .tup [.int (i : Int), .int x] :: enumItems (i + 1) l
noncomputable def forL (bind : LV → LLoc → Option LLoc) (body : LLoc → Option (LFl × LLoc)) : List LV → LLoc → Option (LFl × LLoc)
  | [], ρ => some (.next, ρ)
  | v :: r, ρ => (bind v ρ).bind fun ρ₁ => (body ρ₁).bind fun q => q.1.turn q.2 (forL bind body r) Prod.mk
noncomputable def unsetM : M := ⟨.unset, .unset, .unset, .unset, .unset, .unset, .unset, .unset, .unset, .unset, .unset, .unset, .unset, .unset, false, false, []⟩
noncomputable def toV : LV → Option V
  | .at (.int i) => some (.int i)
  | .at .none => some .none
  | _ => Option.none
noncomputable def V.isNone : V → Bool
  | .none => true
  | _ => false
noncomputable def deep : Nat := 12
section
variable (c : Cls) (im : Nat) (fuel : Nat) (cf : Nat → List LV → Option LV)
noncomputable def backL (ρ : LLoc) (v mv : Nat) (σ : M) : Option LLoc := (setL ρ mv (.own σ.mem)).bind fun ρ' => setL ρ' v (.mpu { σ with mem := [] } mv)
noncomputable def stepL (ρ : LLoc) (v m : Nat) : Option LLoc := (ρ.at v).bind fun u => u.mpu?.bind fun p => (ρ.at p.2).bind fun w => w.own?.bind fun xs => (callM c deep m [] { p.1 with mem := xs }).bind fun r =>
  cond (Nat.ble r.2.mem.length lim) (backL ρ v p.2 r.2) Option.none
noncomputable def mkL (ρ : LLoc) (v mv : Nat) (pc : LV) : Option LLoc := (ρ.at mv).bind fun w => w.own?.bind fun xs => (toV pc).bind fun p => (callM c deep im [.memr, p] { unsetM with mem := xs }).bind fun r =>
  cond (r.1.isNone && free ρ v && !Nat.beq v mv && Nat.ble r.2.mem.length lim) (backL ρ v mv r.2) Option.none
mutual
noncomputable def exL : LS → LLoc → Option (LFl × LLoc)
  | .asg v e, ρ => (evL cf e ρ).bind fun x => (putV ρ v x).map fun ρ' => (.next, ρ')
  | .newl v e, ρ => (evL cf e ρ).bind fun x => x.ints?.bind fun xs => cond (free ρ v) ((setL ρ v (.own xs)).map fun ρ' => (.next, ρ')) Option.none
  | .asgU vs e, ρ => (evL cf e ρ).bind fun x => (bindTg (.many vs) x ρ).map fun ρ' => (.next, ρ')
  | .step v m, ρ => (stepL c ρ v m).map fun ρ' => (.next, ρ')
  | .mk v mv e, ρ => (evL cf e ρ).bind fun x => (mkL c im ρ v mv x).map fun ρ' => (.next, ρ')
  | .ite t a b, ρ => (evL cf t ρ).bind fun v => (truthL v).bind fun q => cond q (exLs a ρ) (exLs b ρ)
  | .for tg src b, ρ => (evSrc cf src ρ).bind fun items => forL (bindTg tg) (fun ρ => exLs b ρ) items ρ
  | .forE vs e b, ρ => (evL cf e ρ).bind fun v => v.ints?.bind fun xs => forL (bindTg (.many vs)) (fun ρ => exLs b ρ) (enumItems 0 xs) ρ
  | .brk, ρ => (fun _ : Nat => some (LFl.brk, ρ)) fuel
  | .ret e, ρ => (evL cf e ρ).map fun x => (.ret x, ρ)
  | .reto v, ρ => (ρ.at v).bind fun u => u.own?.map fun xs => (.ret (.ints xs), ρ)
  | .newR v, ρ => cond (free ρ v) ((setL ρ v (.ownR [])).map fun ρ' => (.next, ρ')) Option.none
  | .appR v es, ρ => (ρ.at v).bind fun u => u.ownR?.bind fun xs => (evL cf (.tup es) ρ).bind fun w => w.tup?.bind fun t => cond (Nat.blt xs.length lim) ((setL ρ v (.ownR (xs ++ [t]))).map fun ρ' => (.next, ρ')) Option.none
  | .frz v s, ρ => (ρ.at v).bind fun u => u.ownR?.bind fun xs => (setL ρ v (.rows xs)).bind fun ρ' => exL s ρ'
  | .slp v lo hi e, ρ => (evL cf e ρ).bind fun x => x.ints?.bind fun ys => (evL cf lo ρ).bind fun l => (evL cf hi ρ).bind fun h => (part l).bind fun pl => (part h).bind fun ph => (ρ.at v).bind fun u => u.own?.bind fun xs => cond (Nat.ble (xs.length + ys.length) lim) ((setL ρ v (.own (putSl xs pl ph ys))).map fun ρ' => (.next, ρ')) Option.none
  | .app v e, ρ => (ρ.at v).bind fun u => u.own?.bind fun xs => (evL cf e ρ).bind fun w => w.int?.bind fun i => cond (Nat.blt xs.length lim) ((setL ρ v (.own (xs ++ [i]))).map fun ρ' => (.next, ρ')) Option.none
noncomputable def exLs : LSs → LLoc → Option (LFl × LLoc)
  | .nil, ρ => some (.next, ρ)
  | .cons s r, ρ => (exL s ρ).bind fun q => match q.1 with
    | .next => exLs r q.2
    | .brk => some (.brk, q.2)
    | .ret v => some (.ret v, q.2)
end
end
structure FnD where
  nm : Str
  np : Nat
  vars : List Str
  body : LSs
noncomputable def LFl.out : LFl → Option LV
  | .next => some (.at .none)
  | .brk => Option.none
  | .ret v => cond (stable v) (some v) Option.none
noncomputable def callL (c : Cls) (im fuel : Nat) (F : List FnD) : Nat → Nat → List LV → Option LV
  | 0, _, _ => Option.none
  | d + 1, f, args => (F[f]?).bind fun fd => if args.length = fd.np ∧ args.all stable = true then (exLs c im fuel (callL c im fuel F d) fd.body (args.map some ++ List.replicate (fd.vars.length - fd.np) Option.none)).bind fun r => r.1.out else Option.none
noncomputable def LOp.op : LOp → Operator
  | .add => .Add | .sub => .Sub | .mul => .Mult | .fdiv => .FloorDiv | .mod => .Mod | .pow => .Pow
noncomputable def plainL : PySem.Expr → Bool
  | .Name .. => true | .Attribute .. => true | .Call .. => true | .BinOp .. => true | .Subscript .. => true | .UnaryOp .. => true | .Constant (.int _) _ _ => true | .Constant (.bool _) _ _ => true | .Constant .none _ _ => true
  | .List .. => true | .Tuple .. => true | .IfExp .. => true | .ListComp .. => true | .Compare .. => true
  | _ => false
noncomputable def notComp : PySem.Expr → Bool
  | .ListComp .. => false | .SetComp .. => false | .DictComp .. => false
  | _ => true
structure LC where
  names : List (Str × NameKind)
  vars : List Str
noncomputable def LC.isVar (k : LC) (v : Nat) (n : Str) : Bool := k.vars[v]? == some n
noncomputable def LC.isGlob (k : LC) (n : Str) : Bool := k.names.lookup n == some .globalImplicit
noncomputable def compSc (k : LC) (caps : List Nat) (x : Str) (sc : Scope) : Bool :=
  sc.kind == .function && (x != ("__debug__" : Str)) && sc.names.lookup x == some .local && (sc.names.all fun y => match y.2 with
    | .cell => false
    | .local => sc.names.lookup y.1 == some .local
    | .free => k.names.lookup y.1 == some .cell
    | _ => true) && caps.all fun i => match k.vars[i]? with
      | some n => n != x && sc.names.lookup n == some .free && k.names.lookup n == some .cell
      | Option.none => false
noncomputable def stb : LE → Bool
  | .own _ => false
  | .ife _ a b => stb a && stb b
  | .idx (.own _) _ => true
  | .idx a _ => stb a
  | .disp es => stbs es
  | .tup es => stbs es
  | .bin _ a b => stb a && stb b
  | _ => true
where stbs : LEs → Bool
  | .nil => true
  | .cons e r => stb e && stbs r
noncomputable def iterOk : PySem.Expr → Bool
  | .Name .. => true | .Subscript .. => true | .List .. => true
  | _ => false
noncomputable def isNoneE : LE → Bool
  | .none => true
  | _ => false
noncomputable def trTgs (k : LC) : List Nat → List PySem.Expr → Bool
  | [], l => l.isEmpty
  | v :: vs, l => o_cons l fun x l => o_Name x fun n _ => k.isVar v n && trTgs k vs l
noncomputable def compScT (tg : List Str) (sc : Scope) : Bool := sc.kind == .function && tg.all (fun n => !(n == ("__debug__" : Str)) && sc.names.lookup n == some .local) && decide tg.Nodup && sc.names.all (fun y => y.2 != .cell && y.2 != .free && (y.2 != .local || sc.names.lookup y.1 == some .local))
section
variable (c : Cls) (F : List FnD)
mutual
noncomputable def trL (k : LC) : LE → PySem.Expr → Bool
  | .int i, x₀ => o_Constant x₀ fun z1 z2 z3 => o_int z1 fun j => i == j
  | .bool b, x₀ => o_Constant x₀ fun z1 z2 z3 => o_bool z1 fun d => b == d
  | .none, x₀ => o_Constant x₀ fun z1 z2 z3 => o_none z1 (true)
  | .var v, x₀ => o_Name x₀ fun n z1 => k.isVar v n
  | .own v, x₀ => o_Name x₀ fun n z1 => k.isVar v n
  | .bin op a b, x₀ => o_BinOp x₀ fun l o r z1 => o == op.op && trL k a l && trL k b r
  | .neg a, x₀ => o_UnaryOp x₀ fun o e z1 => o == .USub && trL k a e
  | .cmp op a b, x₀ => o_Compare x₀ fun l z1 z2 z3 => o_cons z1 fun o z4 => o_nil z4 (o_cons z2 fun r z5 => o_nil z5 (o == op.op && plainL r && trL k a l && trL k b r))
  | .and a b, x₀ => o_BoolOp x₀ fun o z1 z2 => o_cons z1 fun l z3 => o_cons z3 fun r z4 => o_nil z4 (o == .And && stb b && trL k a l && trL k b r)
  | .cmp2 o p a b d, x₀ => o_Compare x₀ fun l z1 z2 z3 => o_cons z1 fun o1 z4 => o_cons z4 fun p1 z5 => o_nil z5 (o_cons z2 fun r z6 => o_cons z6 fun r2 z7 => o_nil z7 (o1 == o.op && p1 == p.op && plainL r && plainL r2 && trL k a l && trL k b r && trL k d r2))
  | .or3 a b d, x₀ => o_BoolOp x₀ fun o z1 z2 => o_cons z1 fun l z3 => o_cons z3 fun r z4 => o_cons z4 fun r2 z5 => o_nil z5 (o == .Or && stb b && stb d && trL k a l && trL k b r && trL k d r2)
  | .not a, x₀ => o_UnaryOp x₀ fun o e z1 => o == .Not && trL k a e
  | .ife t a b, x₀ => o_IfExp x₀ fun x l r z1 => trL k t x && trL k a l && trL k b r
  | .idx a i, x₀ => o_Subscript x₀ fun l e z1 => plainL e && trL k a l && trL k i e
  | .slc a lo hi, x₀ => o_Subscript x₀ fun l z1 z2 => o_Slice z1 fun x y st z3 => st.isNone && trL k a l && (match x with | Option.none => isNoneE lo | some x => trL k lo x) && (match y with | Option.none => isNoneE hi | some y => trL k hi y)
  | .len a, x₀ => o_Call x₀ fun z1 z2 z3 z4 => o_Name z1 fun n z5 => o_cons z2 fun e z6 => o_nil z6 (o_nil z3 (n == ("len" : Str) && k.isGlob n && plainL e && trL k a e))
  | .rev a, x₀ => o_Subscript x₀ fun l z1 z2 => o_Slice z1 fun x y st z3 => x.isNone && y.isNone && stb a && trL k a l && (match st with | some e => o_UnaryOp e fun o u z4 => o == .USub && o_Constant u fun c z5 z6 => o_int c fun j => j == 1 | Option.none => false)
  | .divm a b, x₀ => o_Call x₀ fun z1 z2 z3 z4 => o_Name z1 fun n z5 => o_cons z2 fun e z6 => o_cons z6 fun f z7 => o_nil z7 (o_nil z3 (n == ("divmod" : Str) && k.isGlob n && plainL e && plainL f && trL k a e && trL k b f))
  | .disp es, x₀ => o_List x₀ fun l z1 => trLs k es l
  | .tup es, x₀ => o_Tuple x₀ fun l z1 z2 => trLs k es l
  | .attr v f, x₀ => o_Attribute x₀ fun z1 a z2 => o_Name z1 fun n z3 => k.isVar v n && f.nm == a
  | .call f es, x₀ => o_Call x₀ fun z1 l z2 z3 => o_Name z1 fun n z4 => o_nil z2 (k.isGlob n && (match F[f]? with | some fd => fd.nm == n | Option.none => false) && !l.isEmpty && stb.stbs es && trLs k es l)
  | .comp elt caps src, x₀ => o_ListComp x₀ fun e z1 sc z2 => o_cons z1 fun z3 z4 => o_G z3 fun z5 it ifs as => o_Name z5 fun x z6 => o_nil z4 (ifs.isEmpty && as == 0 && compSc k caps x sc && trSrc k src it && trL ⟨sc.names, k.vars ++ [x]⟩ elt e)
  | .compT tg elts src, x₀ => o_ListComp x₀ fun e z1 sc z2 => o_cons z1 fun z3 z4 => o_G z3 fun t it ifs as => o_Tuple t fun l z5 z6 => o_nil z4 (ifs.isEmpty && as == 0 && compScT tg sc && trTgs ⟨sc.names, tg⟩ (List.range tg.length) l && Nat.blt 0 tg.length && trSrc k src it && stb.stbs elts && (o_Tuple e fun l2 z7 z8 => trLs ⟨sc.names, tg⟩ elts l2))
noncomputable def trLs (k : LC) : LEs → List PySem.Expr → Bool
  | .nil, [] => true
  | .cons e r, x :: l => plainL x && trL k e x && trLs k r l
  | _, _ => false
noncomputable def trSrc (k : LC) : LSrc → PySem.Expr → Bool
  | .rng e, x₀ => o_Call x₀ fun z1 l kw z2 => o_Name z1 fun n z3 => o_cons l fun x z4 => o_nil z4 (o_nil kw (n == ("range" : Str) && k.isGlob n && plainL x && trL k e x))
  | .lst e, x => iterOk x && stb e && trL k e x
end
noncomputable def freshE : LE → Bool
  | .bin _ _ _ => true
  | .slc _ _ _ => true
  | .disp _ => true
  | _ => false
noncomputable def trTg (k : LC) : LTg → PySem.Expr → Bool
  | .one v, x => o_Name x fun n _ => k.isVar v n
  | .many vs, x => o_Tuple x fun l _ _ => trTgs k vs l && Nat.blt 0 vs.length
noncomputable def compE : LE → Bool
  | .comp _ _ _ => true
  | _ => false
noncomputable def swapOk (n : Str) (q : Pos) : PySem.Expr → Bool
  | .ListComp _ _ sc xp => q.line == xp.line && !(sc.names.any fun y => y.1 == n && (y.2 == .local || y.2 == .cell))
  | _ => false
noncomputable def isCall : PySem.Expr → Bool
  | .Call .. => true
  | _ => false
mutual
noncomputable def trLS (k : LC) : LS → Stmt → Bool
  | .asg v e, x₀ => o_Assign x₀ fun z1 x z2 => o_cons z1 fun z3 z4 => o_Name z3 fun n z5 => o_nil z4 (k.isVar v n && notComp x && stb e && trL F k e x)
  | .newl v e, x₀ => o_Assign x₀ fun z1 x z2 => o_cons z1 fun z3 z4 => o_Name z3 fun n z5 => o_nil z4 (k.isVar v n && notComp x && freshE e && trL F k e x)
  | .asgU vs e, x₀ => o_Assign x₀ fun z1 x z2 => o_cons z1 fun z3 z4 => o_Tuple z3 fun l z5 z6 => o_nil z4 (trTgs k vs l && !l.isEmpty && stb e && isCall x && trL F k e x)
  | .step v m, x₀ => o_Expr x₀ fun z1 z2 => o_Call z1 fun z3 z4 z5 p => o_Attribute z3 fun z6 a ap => o_Name z6 fun n z7 => o_nil z4 (o_nil z5 (k.isVar v n && isMeth c m a && ap.endLine == p.line))
  | .mk v mv e, x₀ => o_Assign x₀ fun z1 z2 z3 => o_cons z1 fun z4 z5 => o_Name z4 fun n z6 => o_nil z5 (o_Call z2 fun z7 z8 z9 z10 => o_Name z7 fun f z11 => o_nil z8 (o_cons z9 fun z12 z13 => o_K z12 fun k1 z14 z15 => o_Name z14 fun m z16 => o_cons z13 fun z17 z18 => o_K z17 fun k2 x z19 => o_nil z18 (k.isVar v n && f == ("MPU" : Str) && k.isGlob f && k1 == some ("memory" : Str) && k2 == some ("pc" : Str) && k.isVar mv m && plainL x && trL F k e x)))
  | .ite t a b, x₀ => o_If x₀ fun x l r z1 => trL F k t x && trLSs k a l && trLSs k b r
  | .for tg src b, x₀ => o_For x₀ fun t it l o z1 => o.isEmpty && trTg k tg t && trSrc F k src it && trLSs k b l
  | .forE vs e b, x₀ => o_For x₀ fun t it l o z1 => o.isEmpty && trTg k (.many vs) t && o_Call it (fun f a kw p => o_Name f fun n z2 => o_cons a fun x r => o_nil r (o_nil kw (n == ("enumerate" : Str) && k.isGlob n && plainL x && stb e && trL F k e x))) && trLSs k b l
  | .brk, x₀ => o_Break x₀ fun z1 => true
  | .reto v, x₀ => o_Return x₀ fun z1 z2 => o_some z1 fun x => o_Name x fun n z3 => k.isVar v n
  | .ret e, x₀ => o_Return x₀ fun z1 z2 => o_some z1 fun x => stb e && trL F k e x
  | .newR v, x₀ => o_Assign x₀ fun z1 x z2 => o_cons z1 fun z3 z4 => o_Name z3 fun n z5 => o_nil z4 (o_List x fun l z6 => o_nil l (k.isVar v n))
  | .appR v es, x₀ => o_Expr x₀ fun z1 z2 => o_Call z1 fun z3 z4 z5 p => o_Attribute z3 fun z6 a ap => o_Name z6 fun n z7 => o_cons z4 fun x z8 => o_nil z8 (o_nil z5 (k.isVar v n && a == ("append" : Str) && ap.endLine == p.line && plainL x && stb.stbs es && trL F k (.tup es) x))
  | .frz v s, x₀ => trLS k s x₀
  | .slp v lo hi e, x₀ => o_Assign x₀ fun z1 x z2 => o_cons z1 fun z3 z4 => o_Subscript z3 fun z5 y z6 => o_Name z5 fun n z7 => o_Slice y fun a b st z8 => o_nil z4 (k.isVar v n && st.isNone && notComp x && stb e && (match a with | Option.none => isNoneE lo | some a => trL F k lo a) && (match b with | Option.none => isNoneE hi | some b => trL F k hi b) && trL F k e x)
  | .app v e, x₀ => o_Expr x₀ fun z1 z2 => o_Call z1 fun z3 z4 z5 p => o_Attribute z3 fun z6 a ap => o_Name z6 fun n z7 => o_cons z4 fun x z8 => o_nil z8 (o_nil z5 (k.isVar v n && a == ("append" : Str) && ap.endLine == p.line && plainL x && trL F k e x))
noncomputable def trLSs (k : LC) : LSs → List Stmt → Bool
  | .nil, [] => true
  | .cons s r, x :: l => trLS k s x && trLSs k r l
  | _, _ => false
end
end
section
variable {c : Cls} {F : List FnD} {k : LC}
theorem inv_trL_int {K : Prop} {i : Int} {x₀ : PySem.Expr} (h : trL F k (.int i) x₀ = true) (kk : ∀ j y1 y2, x₀ = (.Constant (.int j) y1 y2) → (i == j) = true → K) : K := by
  revert kk
  apply o_Constant_elim h; intro z1 z2 z3 h
  apply o_int_elim h; intro j h
  exact fun kk => kk _ _ _ rfl h
theorem inv_trL_bool {K : Prop} {b : Bool} {x₀ : PySem.Expr} (h : trL F k (.bool b) x₀ = true) (kk : ∀ d y1 y2, x₀ = (.Constant (.bool d) y1 y2) → (b == d) = true → K) : K := by
  revert kk
  apply o_Constant_elim h; intro z1 z2 z3 h
  apply o_bool_elim h; intro d h
  exact fun kk => kk _ _ _ rfl h
theorem inv_trL_none {K : Prop}  {x₀ : PySem.Expr} (h : trL F k .none x₀ = true) (kk : ∀ y1 y2, x₀ = (.Constant (.none) y1 y2) → (true) = true → K) : K := by
  revert kk
  apply o_Constant_elim h; intro z1 z2 z3 h
  apply o_none_elim h; intro h
  exact fun kk => kk _ _ rfl h
theorem inv_trL_var {K : Prop} {v : Nat} {x₀ : PySem.Expr} (h : trL F k (.var v) x₀ = true) (kk : ∀ n y1, x₀ = (.Name n y1) → (k.isVar v n) = true → K) : K := by
  revert kk
  apply o_Name_elim h; intro n z1 h
  exact fun kk => kk _ _ rfl h
theorem inv_trL_own {K : Prop} {v : Nat} {x₀ : PySem.Expr} (h : trL F k (.own v) x₀ = true) (kk : ∀ n y1, x₀ = (.Name n y1) → (k.isVar v n) = true → K) : K := by
  revert kk
  apply o_Name_elim h; intro n z1 h
  exact fun kk => kk _ _ rfl h
theorem inv_trL_bin {K : Prop} {op : LOp} {a : LE} {b : LE} {x₀ : PySem.Expr} (h : trL F k (.bin op a b) x₀ = true) (kk : ∀ l o r y1, x₀ = (.BinOp l o r y1) → (o == op.op && trL F k a l && trL F k b r) = true → K) : K := by
  revert kk
  apply o_BinOp_elim h; intro l o r z1 h
  exact fun kk => kk _ _ _ _ rfl h
theorem inv_trL_neg {K : Prop} {a : LE} {x₀ : PySem.Expr} (h : trL F k (.neg a) x₀ = true) (kk : ∀ o e y1, x₀ = (.UnaryOp o e y1) → (o == .USub && trL F k a e) = true → K) : K := by
  revert kk
  apply o_UnaryOp_elim h; intro o e z1 h
  exact fun kk => kk _ _ _ rfl h
theorem inv_trL_cmp {K : Prop} {op : COp} {a : LE} {b : LE} {x₀ : PySem.Expr} (h : trL F k (.cmp op a b) x₀ = true) (kk : ∀ l o r y1, x₀ = (.Compare l (o :: []) (r :: []) y1) → (o == op.op && plainL r && trL F k a l && trL F k b r) = true → K) : K := by
  revert kk
  apply o_Compare_elim h; intro l z1 z2 z3 h
  apply o_cons_elim h; intro o z4 h
  apply o_nil_elim h; intro h
  apply o_cons_elim h; intro r z5 h
  apply o_nil_elim h; intro h
  exact fun kk => kk _ _ _ _ rfl h
theorem inv_trL_and {K : Prop} {a : LE} {b : LE} {x₀ : PySem.Expr} (h : trL F k (.and a b) x₀ = true) (kk : ∀ o l r y1, x₀ = (.BoolOp o (l :: (r :: [])) y1) → (o == .And && stb b && trL F k a l && trL F k b r) = true → K) : K := by
  revert kk
  apply o_BoolOp_elim h; intro o z1 z2 h
  apply o_cons_elim h; intro l z3 h
  apply o_cons_elim h; intro r z4 h
  apply o_nil_elim h; intro h
  exact fun kk => kk _ _ _ _ rfl h
theorem inv_trL_cmp2 {K : Prop} {o p : COp} {a b d : LE} {x₀ : PySem.Expr} (h : trL F k (.cmp2 o p a b d) x₀ = true) (kk : ∀ l o1 p1 r r2 y1, x₀ = (.Compare l (o1 :: (p1 :: [])) (r :: (r2 :: [])) y1) → (o1 == o.op && p1 == p.op && plainL r && plainL r2 && trL F k a l && trL F k b r && trL F k d r2) = true → K) : K := by
  revert kk
  apply o_Compare_elim h; intro l z1 z2 z3 h
  apply o_cons_elim h; intro o1 z4 h
  apply o_cons_elim h; intro p1 z5 h
  apply o_nil_elim h; intro h
  apply o_cons_elim h; intro r z6 h
  apply o_cons_elim h; intro r2 z7 h
  apply o_nil_elim h; intro h
  exact fun kk => kk _ _ _ _ _ _ rfl h
theorem inv_trL_or3 {K : Prop} {a b d : LE} {x₀ : PySem.Expr} (h : trL F k (.or3 a b d) x₀ = true) (kk : ∀ o l r r2 y1, x₀ = (.BoolOp o (l :: (r :: (r2 :: []))) y1) → (o == .Or && stb b && stb d && trL F k a l && trL F k b r && trL F k d r2) = true → K) : K := by
  revert kk
  apply o_BoolOp_elim h; intro o z1 z2 h
  apply o_cons_elim h; intro l z3 h
  apply o_cons_elim h; intro r z4 h
  apply o_cons_elim h; intro r2 z5 h
  apply o_nil_elim h; intro h
  exact fun kk => kk _ _ _ _ _ rfl h
theorem inv_trL_not {K : Prop} {a : LE} {x₀ : PySem.Expr} (h : trL F k (.not a) x₀ = true) (kk : ∀ o e y1, x₀ = (.UnaryOp o e y1) → (o == .Not && trL F k a e) = true → K) : K := by
  revert kk
  apply o_UnaryOp_elim h; intro o e z1 h
  exact fun kk => kk _ _ _ rfl h
theorem inv_trL_ife {K : Prop} {t : LE} {a : LE} {b : LE} {x₀ : PySem.Expr} (h : trL F k (.ife t a b) x₀ = true) (kk : ∀ x l r y1, x₀ = (.IfExp x l r y1) → (trL F k t x && trL F k a l && trL F k b r) = true → K) : K := by
  revert kk
  apply o_IfExp_elim h; intro x l r z1 h
  exact fun kk => kk _ _ _ _ rfl h
theorem inv_trL_idx {K : Prop} {a : LE} {i : LE} {x₀ : PySem.Expr} (h : trL F k (.idx a i) x₀ = true) (kk : ∀ l e y1, x₀ = (.Subscript l e y1) → (plainL e && trL F k a l && trL F k i e) = true → K) : K := by
  revert kk
  apply o_Subscript_elim h; intro l e z1 h
  exact fun kk => kk _ _ _ rfl h
theorem inv_trL_slc {K : Prop} {a : LE} {lo : LE} {hi : LE} {x₀ : PySem.Expr} (h : trL F k (.slc a lo hi) x₀ = true) (kk : ∀ l x y st y1 y2, x₀ = (.Subscript l (.Slice x y st y1) y2) → (st.isNone && trL F k a l && (match x with | Option.none => isNoneE lo | some x => trL F k lo x) && (match y with | Option.none => isNoneE hi | some y => trL F k hi y)) = true → K) : K := by
  revert kk
  apply o_Subscript_elim h; intro l z1 z2 h
  apply o_Slice_elim h; intro x y st z3 h
  exact fun kk => kk _ _ _ _ _ _ rfl h
theorem inv_trL_len {K : Prop} {a : LE} {x₀ : PySem.Expr} (h : trL F k (.len a) x₀ = true) (kk : ∀ n y1 e y2, x₀ = (.Call (.Name n y1) (e :: []) [] y2) → (n == ("len" : Str) && k.isGlob n && plainL e && trL F k a e) = true → K) : K := by
  revert kk
  apply o_Call_elim h; intro z1 z2 z3 z4 h
  apply o_Name_elim h; intro n z5 h
  apply o_cons_elim h; intro e z6 h
  apply o_nil_elim h; intro h
  apply o_nil_elim h; intro h
  exact fun kk => kk _ _ _ _ rfl h
theorem inv_trL_rev {K : Prop} {a : LE} {x₀ : PySem.Expr} (h : trL F k (.rev a) x₀ = true) (kk : ∀ l p1 p2 p3 p4 p5, x₀ = (.Subscript l (.Slice Option.none Option.none (some (.UnaryOp .USub (.Constant (.int 1) p1 p2) p3)) p4) p5) → stb a = true → trL F k a l = true → K) : K := by
  revert kk
  apply o_Subscript_elim h; intro l z1 z2 h
  apply o_Slice_elim h; intro x y st z3 h
  refine and_el h fun h h5 => ?_
  refine and_el h fun h h4 => ?_
  refine and_el h fun h h3 => ?_
  refine and_el h fun h1 h2 => ?_
  cases Option.isNone_iff_eq_none.mp h1
  cases Option.isNone_iff_eq_none.mp h2
  cases st with
  | none => injection h5
  | some e =>
    apply o_UnaryOp_elim h5; intro o u z4 h5
    refine and_el h5 fun ho h5 => ?_
    cases beq_iff_eq.mp ho
    apply o_Constant_elim h5; intro c z5 z6 h5
    apply o_int_elim h5; intro j h5
    cases beq_iff_eq.mp h5
    exact fun kk => kk _ _ _ _ _ _ rfl h3 h4
theorem inv_trL_divm {K : Prop} {a : LE} {b : LE} {x₀ : PySem.Expr} (h : trL F k (.divm a b) x₀ = true) (kk : ∀ n y1 e f y2, x₀ = (.Call (.Name n y1) (e :: (f :: [])) [] y2) → (n == ("divmod" : Str) && k.isGlob n && plainL e && plainL f && trL F k a e && trL F k b f) = true → K) : K := by
  revert kk
  apply o_Call_elim h; intro z1 z2 z3 z4 h
  apply o_Name_elim h; intro n z5 h
  apply o_cons_elim h; intro e z6 h
  apply o_cons_elim h; intro f z7 h
  apply o_nil_elim h; intro h
  apply o_nil_elim h; intro h
  exact fun kk => kk _ _ _ _ _ rfl h
theorem inv_trL_disp {K : Prop} {es : LEs} {x₀ : PySem.Expr} (h : trL F k (.disp es) x₀ = true) (kk : ∀ l y1, x₀ = (.List l y1) → (trLs F k es l) = true → K) : K := by
  revert kk
  apply o_List_elim h; intro l z1 h
  exact fun kk => kk _ _ rfl h
theorem inv_trL_tup {K : Prop} {es : LEs} {x₀ : PySem.Expr} (h : trL F k (.tup es) x₀ = true) (kk : ∀ l y1 y2, x₀ = (.Tuple l y1 y2) → (trLs F k es l) = true → K) : K := by
  revert kk
  apply o_Tuple_elim h; intro l z1 z2 h
  exact fun kk => kk _ _ _ rfl h
theorem inv_trL_attr {K : Prop} {v : Nat} {f : Fld} {x₀ : PySem.Expr} (h : trL F k (.attr v f) x₀ = true) (kk : ∀ n y1 a y2, x₀ = (.Attribute (.Name n y1) a y2) → (k.isVar v n && f.nm == a) = true → K) : K := by
  revert kk
  apply o_Attribute_elim h; intro z1 a z2 h
  apply o_Name_elim h; intro n z3 h
  exact fun kk => kk _ _ _ _ rfl h
theorem inv_trL_call {K : Prop} {f : Nat} {es : LEs} {x₀ : PySem.Expr} (h : trL F k (.call f es) x₀ = true) (kk : ∀ n y1 l y2, x₀ = (.Call (.Name n y1) l [] y2) → (k.isGlob n && (match F[f]? with | some fd => fd.nm == n | Option.none => false) && !l.isEmpty && stb.stbs es && trLs F k es l) = true → K) : K := by
  revert kk
  apply o_Call_elim h; intro z1 l z2 z3 h
  apply o_Name_elim h; intro n z4 h
  apply o_nil_elim h; intro h
  exact fun kk => kk _ _ _ _ rfl h
theorem inv_trL_comp {K : Prop} {elt : LE} {caps : List Nat} {src : LSrc} {x₀ : PySem.Expr} (h : trL F k (.comp elt caps src) x₀ = true) (kk : ∀ e x y1 it ifs as sc y2, x₀ = (.ListComp e (⟨(.Name x y1), it, ifs, as⟩ :: []) sc y2) → (ifs.isEmpty && as == 0 && compSc k caps x sc && trSrc F k src it && trL F ⟨sc.names, k.vars ++ [x]⟩ elt e) = true → K) : K := by
  revert kk
  apply o_ListComp_elim h; intro e z1 sc z2 h
  apply o_cons_elim h; intro z3 z4 h
  apply o_G_elim h; intro z5 it ifs as h
  apply o_Name_elim h; intro x z6 h
  apply o_nil_elim h; intro h
  exact fun kk => kk _ _ _ _ _ _ _ _ rfl h
theorem inv_trL_compT {K : Prop} {tg : List Str} {elts : LEs} {src : LSrc} {x₀ : PySem.Expr} (h : trL F k (.compT tg elts src) x₀ = true) (kk : ∀ l2 p1 p2 l p3 p4 it sc p5, x₀ = (.ListComp (.Tuple l2 p1 p2) (⟨(.Tuple l p3 p4), it, [], 0⟩ :: []) sc p5) → compScT tg sc = true → trTgs ⟨sc.names, tg⟩ (List.range tg.length) l = true → Nat.blt 0 tg.length = true → trSrc F k src it = true → stb.stbs elts = true → trLs F ⟨sc.names, tg⟩ elts l2 = true → K) : K := by
  revert kk
  apply o_ListComp_elim h; intro e z1 sc z2 h
  apply o_cons_elim h; intro z3 z4 h
  apply o_G_elim h; intro t it ifs as h
  apply o_Tuple_elim h; intro l z5 z6 h
  apply o_nil_elim h; intro h
  refine and_el h fun h h8 => ?_
  refine and_el h fun h h7 => ?_
  refine and_el h fun h h6 => ?_
  refine and_el h fun h h5 => ?_
  refine and_el h fun h h4 => ?_
  refine and_el h fun h h3 => ?_
  refine and_el h fun h1 h2 => ?_
  cases List.isEmpty_iff.mp h1
  cases beq_iff_eq.mp h2
  apply o_Tuple_elim h8; intro l2 z7 z8 h8
  exact fun kk => kk _ _ _ _ _ _ _ _ _ rfl h3 h4 h5 h6 h7 h8
theorem inv_trLS_asg {K : Prop} {v : Nat} {e : LE} {x₀ : Stmt} (h : trLS c F k (.asg v e) x₀ = true) (kk : ∀ n y1 x y2, x₀ = (.Assign ((.Name n y1) :: []) x y2) → (k.isVar v n && notComp x && stb e && trL F k e x) = true → K) : K := by
  revert kk
  apply o_Assign_elim h; intro z1 x z2 h
  apply o_cons_elim h; intro z3 z4 h
  apply o_Name_elim h; intro n z5 h
  apply o_nil_elim h; intro h
  exact fun kk => kk _ _ _ _ rfl h
theorem inv_trLS_newl {K : Prop} {v : Nat} {e : LE} {x₀ : Stmt} (h : trLS c F k (.newl v e) x₀ = true) (kk : ∀ n y1 x y2, x₀ = (.Assign ((.Name n y1) :: []) x y2) → (k.isVar v n && notComp x && freshE e && trL F k e x) = true → K) : K := by
  revert kk
  apply o_Assign_elim h; intro z1 x z2 h
  apply o_cons_elim h; intro z3 z4 h
  apply o_Name_elim h; intro n z5 h
  apply o_nil_elim h; intro h
  exact fun kk => kk _ _ _ _ rfl h
theorem inv_trLS_asgU {K : Prop} {vs : List Nat} {e : LE} {x₀ : Stmt} (h : trLS c F k (.asgU vs e) x₀ = true) (kk : ∀ l y1 y2 x y3, x₀ = (.Assign ((.Tuple l y1 y2) :: []) x y3) → (trTgs k vs l && !l.isEmpty && stb e && isCall x && trL F k e x) = true → K) : K := by
  revert kk
  apply o_Assign_elim h; intro z1 x z2 h
  apply o_cons_elim h; intro z3 z4 h
  apply o_Tuple_elim h; intro l z5 z6 h
  apply o_nil_elim h; intro h
  exact fun kk => kk _ _ _ _ _ rfl h
theorem inv_trLS_step {K : Prop} {v : Nat} {m : Nat} {x₀ : Stmt} (h : trLS c F k (.step v m) x₀ = true) (kk : ∀ n y1 a ap p y2, x₀ = (.Expr (.Call (.Attribute (.Name n y1) a ap) [] [] p) y2) → (k.isVar v n && isMeth c m a && ap.endLine == p.line) = true → K) : K := by
  revert kk
  apply o_Expr_elim h; intro z1 z2 h
  apply o_Call_elim h; intro z3 z4 z5 p h
  apply o_Attribute_elim h; intro z6 a ap h
  apply o_Name_elim h; intro n z7 h
  apply o_nil_elim h; intro h
  apply o_nil_elim h; intro h
  exact fun kk => kk _ _ _ _ _ _ rfl h
theorem inv_trLS_newR {K : Prop} {v : Nat} {x₀ : Stmt} (h : trLS c F k (.newR v) x₀ = true) (kk : ∀ n q y1 y2, x₀ = (.Assign ((.Name n q) :: []) (.List [] y1) y2) → k.isVar v n = true → K) : K := by
  revert kk
  apply o_Assign_elim h; intro z1 x z2 h
  apply o_cons_elim h; intro z3 z4 h
  apply o_Name_elim h; intro n z5 h
  apply o_nil_elim h; intro h
  apply o_List_elim h; intro l z6 h
  apply o_nil_elim h; intro h
  exact fun kk => kk _ _ _ _ rfl h
theorem inv_trLS_appR {K : Prop} {v : Nat} {es : LEs} {x₀ : Stmt} (h : trLS c F k (.appR v es) x₀ = true) (kk : ∀ n y1 a ap x p y2, x₀ = (.Expr (.Call (.Attribute (.Name n y1) a ap) (x :: []) [] p) y2) → (k.isVar v n && a == ("append" : Str) && ap.endLine == p.line && plainL x && stb.stbs es && trL F k (.tup es) x) = true → K) : K := by
  revert kk
  apply o_Expr_elim h; intro z1 z2 h
  apply o_Call_elim h; intro z3 z4 z5 p h
  apply o_Attribute_elim h; intro z6 a ap h
  apply o_Name_elim h; intro n z7 h
  apply o_cons_elim h; intro x z8 h
  apply o_nil_elim h; intro h
  apply o_nil_elim h; intro h
  exact fun kk => kk _ _ _ _ _ _ _ rfl h
theorem inv_trLS_slp {K : Prop} {v : Nat} {lo hi e : LE} {x₀ : Stmt} (h : trLS c F k (.slp v lo hi e) x₀ = true) (kk : ∀ n q a b st p1 p2 x p3, x₀ = (.Assign ((.Subscript (.Name n q) (.Slice a b st p1) p2) :: []) x p3) → (k.isVar v n && st.isNone && notComp x && stb e && (match a with | Option.none => isNoneE lo | some a => trL F k lo a) && (match b with | Option.none => isNoneE hi | some b => trL F k hi b) && trL F k e x) = true → K) : K := by
  revert kk
  apply o_Assign_elim h; intro z1 x z2 h
  apply o_cons_elim h; intro z3 z4 h
  apply o_Subscript_elim h; intro z5 y z6 h
  apply o_Name_elim h; intro n z7 h
  apply o_Slice_elim h; intro a b st z8 h
  apply o_nil_elim h; intro h
  exact fun kk => kk _ _ _ _ _ _ _ _ _ rfl h
theorem inv_trLS_app {K : Prop} {v : Nat} {e : LE} {x₀ : Stmt} (h : trLS c F k (.app v e) x₀ = true) (kk : ∀ n y1 a ap x p y2, x₀ = (.Expr (.Call (.Attribute (.Name n y1) a ap) (x :: []) [] p) y2) → (k.isVar v n && a == ("append" : Str) && ap.endLine == p.line && plainL x && trL F k e x) = true → K) : K := by
  revert kk
  apply o_Expr_elim h; intro z1 z2 h
  apply o_Call_elim h; intro z3 z4 z5 p h
  apply o_Attribute_elim h; intro z6 a ap h
  apply o_Name_elim h; intro n z7 h
  apply o_cons_elim h; intro x z8 h
  apply o_nil_elim h; intro h
  apply o_nil_elim h; intro h
  exact fun kk => kk _ _ _ _ _ _ _ rfl h
theorem inv_trLS_mk {K : Prop} {v : Nat} {mv : Nat} {e : LE} {x₀ : Stmt} (h : trLS c F k (.mk v mv e) x₀ = true) (kk : ∀ n y1 f y2 k1 m y3 y4 k2 x y5 y6 y7, x₀ = (.Assign ((.Name n y1) :: []) (.Call (.Name f y2) [] (⟨k1, (.Name m y3), y4⟩ :: (⟨k2, x, y5⟩ :: [])) y6) y7) → (k.isVar v n && f == ("MPU" : Str) && k.isGlob f && k1 == some ("memory" : Str) && k2 == some ("pc" : Str) && k.isVar mv m && plainL x && trL F k e x) = true → K) : K := by
  revert kk
  apply o_Assign_elim h; intro z1 z2 z3 h
  apply o_cons_elim h; intro z4 z5 h
  apply o_Name_elim h; intro n z6 h
  apply o_nil_elim h; intro h
  apply o_Call_elim h; intro z7 z8 z9 z10 h
  apply o_Name_elim h; intro f z11 h
  apply o_nil_elim h; intro h
  apply o_cons_elim h; intro z12 z13 h
  apply o_K_elim h; intro k1 z14 z15 h
  apply o_Name_elim h; intro m z16 h
  apply o_cons_elim h; intro z17 z18 h
  apply o_K_elim h; intro k2 x z19 h
  apply o_nil_elim h; intro h
  exact fun kk => kk _ _ _ _ _ _ _ _ _ _ _ _ _ rfl h
theorem inv_trLS_ite {K : Prop} {t : LE} {a : LSs} {b : LSs} {x₀ : Stmt} (h : trLS c F k (.ite t a b) x₀ = true) (kk : ∀ x l r y1, x₀ = (.If x l r y1) → (trL F k t x && trLSs c F k a l && trLSs c F k b r) = true → K) : K := by
  revert kk
  apply o_If_elim h; intro x l r z1 h
  exact fun kk => kk _ _ _ _ rfl h
theorem inv_trLS_for {K : Prop} {tg : LTg} {src : LSrc} {b : LSs} {x₀ : Stmt} (h : trLS c F k (.for tg src b) x₀ = true) (kk : ∀ t it l o y1, x₀ = (.For t it l o y1) → (o.isEmpty && trTg k tg t && trSrc F k src it && trLSs c F k b l) = true → K) : K := by
  revert kk
  apply o_For_elim h; intro t it l o z1 h
  exact fun kk => kk _ _ _ _ _ rfl h
theorem inv_trLS_forE {K : Prop} {vs : List Nat} {e : LE} {b : LSs} {x₀ : Stmt} (h : trLS c F k (.forE vs e b) x₀ = true) (kk : ∀ t n q x p l y1, x₀ = (.For t (.Call (.Name n q) (x :: []) [] p) l [] y1) → trTg k (.many vs) t = true → (n == ("enumerate" : Str) && k.isGlob n && plainL x && stb e && trL F k e x) = true → trLSs c F k b l = true → K) : K := by
  revert kk
  apply o_For_elim h; intro t it l o z1 h
  refine and_el h fun h h4 => ?_
  refine and_el h fun h h3 => ?_
  refine and_el h fun h1 h2 => ?_
  cases List.isEmpty_iff.mp h1
  revert h2 h4
  apply o_Call_elim h3; intro f a kw p h3
  apply o_Name_elim h3; intro n q h3
  apply o_cons_elim h3; intro x r h3
  apply o_nil_elim h3; intro h3
  apply o_nil_elim h3; intro h3 h4 h2
  exact fun kk => kk _ _ _ _ _ _ _ rfl h2 h3 h4
theorem inv_trLS_brk {K : Prop}  {x₀ : Stmt} (h : trLS c F k .brk x₀ = true) (kk : ∀ y1, x₀ = (.Break y1) → (true) = true → K) : K := by
  revert kk
  apply o_Break_elim h; intro z1 h
  exact fun kk => kk _ rfl h
theorem inv_trLS_ret {K : Prop} {e : LE} {x₀ : Stmt} (h : trLS c F k (.ret e) x₀ = true) (kk : ∀ x y1, x₀ = (.Return (some x) y1) → (stb e && trL F k e x) = true → K) : K := by
  revert kk
  apply o_Return_elim h; intro z1 z2 h
  apply o_some_elim h; intro x h
  exact fun kk => kk _ _ rfl h
theorem inv_trLS_reto {K : Prop} {v : Nat} {x₀ : Stmt} (h : trLS c F k (.reto v) x₀ = true) (kk : ∀ n q y1, x₀ = (.Return (some (.Name n q)) y1) → k.isVar v n = true → K) : K := by
  revert kk
  apply o_Return_elim h; intro z1 z2 h
  apply o_some_elim h; intro x h
  apply o_Name_elim h; intro n z3 h
  exact fun kk => kk _ _ _ rfl h
end
end Mine

end
section
open PySem PySem.W PyProof.Rows
set_option maxRecDepth 100000
set_option maxHeartbeats 0
set_option linter.unusedVariables false
namespace Mine
section
variable {c : Cls} {im fuel : Nat} {cf : Nat → List LV → Option LV} {ρ ρ' ρ₁ ρ₂ : LLoc}
theorem evL_bin {op : LOp} {a b : LE} : evL cf (.bin op a b) ρ = (evL cf a ρ).bind fun x => (evL cf b ρ).bind fun y => binV op x y := by kernel_rfl
theorem evLs_cons {a : LE} {b : LEs} : evLs cf (.cons a b) ρ = (evL cf a ρ).bind fun v => (evLs cf b ρ).map fun vs => v :: vs := by kernel_rfl
theorem exL_asg {v : Nat} {e : LE} : exL c im fuel cf (.asg v e) ρ = (evL cf e ρ).bind fun x => (putV ρ v x).map fun ρ' => (.next, ρ') := by kernel_rfl
theorem exL_step {v m : Nat} : exL c im fuel cf (.step v m) ρ = (stepL c ρ v m).map fun ρ' => (.next, ρ') := by kernel_rfl
theorem exL_ite {t : LE} {a b : LSs} : exL c im fuel cf (.ite t a b) ρ = (evL cf t ρ).bind fun v => (truthL v).bind fun q => cond q (exLs c im fuel cf a ρ) (exLs c im fuel cf b ρ) := by kernel_rfl
theorem exL_for {tg : LTg} {src : LSrc} {b : LSs} : exL c im fuel cf (.for tg src b) ρ = (evSrc cf src ρ).bind fun items => forL (bindTg tg) (fun ρ => exLs c im fuel cf b ρ) items ρ := by kernel_rfl
theorem exL_app {v : Nat} {e : LE} : exL c im fuel cf (.app v e) ρ = (ρ.at v).bind fun u => u.own?.bind fun xs => (evL cf e ρ).bind fun w => w.int?.bind fun i => cond (Nat.blt xs.length lim) ((setL ρ v (.own (xs ++ [i]))).map fun ρ' => (.next, ρ')) Option.none := by kernel_rfl
theorem exL_ret {e : LE} : exL c im fuel cf (.ret e) ρ = (evL cf e ρ).map fun x => (.ret x, ρ) := by kernel_rfl
theorem exLs_go {s : LS} {r : LSs} (h : exL c im fuel cf s ρ = some (.next, ρ')) : exLs c im fuel cf (.cons s r) ρ = exLs c im fuel cf r ρ' := by
  show (exL c im fuel cf s ρ).bind _ = _
  rw [h]; rfl
theorem exLs_brk {s : LS} {r : LSs} (h : exL c im fuel cf s ρ = some (.brk, ρ')) : exLs c im fuel cf (.cons s r) ρ = some (.brk, ρ') := by
  show (exL c im fuel cf s ρ).bind _ = _
  rw [h]; rfl
theorem exLs_ret {s : LS} {r : LSs} {x : LV} (h : exL c im fuel cf s ρ = some (.ret x, ρ')) : exLs c im fuel cf (.cons s r) ρ = some (.ret x, ρ') := by
  show (exL c im fuel cf s ρ).bind _ = _
  rw [h]; rfl
theorem forL_go {bind : LV → LLoc → Option LLoc} {body : LLoc → Option (LFl × LLoc)} {v : LV} {r : List LV} (h1 : bind v ρ = some ρ₁) (h2 : body ρ₁ = some (.next, ρ₂)) : forL bind body (v :: r) ρ = forL bind body r ρ₂ := by
  show (bind v ρ).bind _ = _
  rw [h1, Option.bind_some, h2]; rfl
theorem forL_brk {bind : LV → LLoc → Option LLoc} {body : LLoc → Option (LFl × LLoc)} {v : LV} {r : List LV} (h1 : bind v ρ = some ρ₁) (h2 : body ρ₁ = some (.brk, ρ₂)) : forL bind body (v :: r) ρ = some (.next, ρ₂) := by
  show (bind v ρ).bind _ = _
  rw [h1, Option.bind_some, h2]; rfl
end
end Mine

end
section
open PySem PySem.W PyProof.Rows
set_option maxRecDepth 100000
set_option maxHeartbeats 0
set_option linter.unusedVariables false
namespace Mine
section
variable {c : Cls} {im fuel : Nat} {cf : Nat → List LV → Option LV} {ρ ρ' ρ₁ ρ₂ : LLoc}
theorem for_inv {v n : Nat} {e : LE} {b : LSs} (I : Nat → LLoc → Prop) (he : evL cf e ρ = some (.int (n : Int))) (hn : n ≤ lim) (h0 : I 0 ρ) (step : ∀ i ρ, i < n → I i ρ → ∃ ρ₁ ρ₂, putV ρ v (.int i) = some ρ₁ ∧ exLs c im fuel cf b ρ₁ = some (.next, ρ₂) ∧ I (i + 1) ρ₂) :
    ∃ ρ', exL c im fuel cf (.for (.one v) (.rng e) b) ρ = some (.next, ρ') ∧ I n ρ' := by
  have go : ∀ (m k : Nat) (ρ : LLoc), k + m = n → I k ρ → ∃ ρ', forL (bindTg (.one v)) (fun ρ => exLs c im fuel cf b ρ) ((List.range' k m).map fun i : Nat => LV.int (i : Int)) ρ = some (.next, ρ') ∧ I n ρ' := by
    intro m
    induction m with
    | zero => intro k ρ hk h; exact ⟨ρ, rfl, by rw [← hk, Nat.add_zero]; exact h⟩
    | succ m ih =>
      intro k ρ hk h
      obtain ⟨ρ₁, ρ₂, h1, h2, h3⟩ := step k ρ (by lia) h
      obtain ⟨ρ', h4, h5⟩ := ih (k + 1) ρ₂ (by lia) h3
      refine ⟨ρ', ?_, h5⟩
      rw [List.range'_succ, List.map_cons]
      rw [forL_go (ρ₁ := ρ₁) (ρ₂ := ρ₂) h1 h2]
      exact h4
  obtain ⟨ρ', h1, h2⟩ := go n 0 ρ (Nat.zero_add n) h0
  refine ⟨ρ', ?_, h2⟩
  rw [exL_for]
  have : evSrc cf (.rng e) ρ = some ((List.range' 0 n).map fun i : Nat => LV.int (i : Int)) := by
    show (evL cf e ρ).bind _ = _
    rw [he]
    show (if -(2 ^ 40) ≤ (n : Int) ∧ (n : Int) ≤ lim then _ else _) = _
    rw [if_pos ⟨by lia, by exact Int.ofNat_le.mpr hn⟩, Int.toNat_natCast, List.range_eq_range']
  rw [this, Option.bind_some]
  exact h1
end
end Mine

end
section
open PySem PySem.W PyProof.Rows
set_option maxRecDepth 100000
namespace Mine

structure LX where
  x : Cx
  F : List FnD
  im : Nat
  fuel : Nat
  mg : Str → Option Value
  mb : Str → Option Value
  fA : Nat → Addr
noncomputable def LX.at (X : LX) (I D L : Addr) : Cx := { X.x with I := I, D := D, L := L }

noncomputable def VarAt (env : Env) (h : Heap) (n : Str) (y : Value) : Prop :=
  (env.kindOf n = some .local ∧ ∃ m, h.Ns env.locals m ∧ m n = some y) ∨ (env.kindOf n = some .cell ∧ ∃ c, env.cells.lookup n = some c ∧ h.IsCell c (some y))
theorem ns_unique {h : Heap} {a : Addr} {m m' : Str → Option Value} (x : h.Ns a m) (y : h.Ns a m') : m = m' := by
  refine Classical.byContradiction fun hHid => ?_
  obtain ⟨o, es, ep, e, d, _, f⟩ := x
  obtain ⟨o', es', ep', e', d', _, f'⟩ := y
  refine hHid ?_
  clear hHid
  rw [e] at e'; (injection e' with e'; subst e')
  rw [d] at d'; (injection d' with d'; subst d')
  funext n; rw [← f n, f' n]
theorem VarAt.unique {env : Env} {h : Heap} {n : Str} {y y' : Value} (a : VarAt env h n y) (b : VarAt env h n y') : y = y' := by
  rcases a with ⟨k, m, hm, e⟩ | ⟨k, c, hc, hv⟩ <;> rcases b with ⟨k', m', hm', e'⟩ | ⟨k', c', hc', hv'⟩
  · rw [ns_unique hm hm'] at e; rw [e] at e'; exact Option.some.inj e'
  · rw [k] at k'; cases k'
  · rw [k] at k'; cases k'
  · rw [hc] at hc'; (injection hc' with hc'; subst hc')
    obtain ⟨o, e, d⟩ := hv; obtain ⟨o', e', d'⟩ := hv'
    rw [e] at e'; (injection e' with e'; subst e'); rw [d] at d'; cases d'; rfl

noncomputable def RA (N : Addr → Prop) (h : Heap) : At → Value → Prop
  | .int i, y => ∃ t, y = .int i t
  | .bool b, y => y = .bool b
  | .none, y => y = .none
  | .ints xs, y => ∃ a items, y = .ref a ∧ ¬ N a ∧ h.IsList a items ∧ IntsAre items.toList xs ∧ xs.length ≤ lim
noncomputable def RT (N : Addr → Prop) (h : Heap) (xs : List At) (y : Value) : Prop := ∃ a items, y = .ref a ∧ IsTup h a items ∧ Paired (RA N h) xs items.toList
noncomputable def RV (N : Addr → Prop) (h : Heap) : LV → Value → Prop
  | .at a, y => RA N h a y
  | .tup xs, y => RT N h xs y
  | .rows xs, y => ∃ a items, y = .ref a ∧ ¬ N a ∧ h.IsList a items ∧ Paired (RT N h) xs items.toList ∧ xs.length ≤ lim
  | .lists xs, y => ∃ a items, y = .ref a ∧ ¬ N a ∧ h.IsList a items ∧ Paired (fun zs => RA N h (.ints zs)) xs items.toList ∧ xs.length ≤ lim
  | .own _, _ => False
  | .ownR _, _ => False
  | .mpu _ _, _ => False
noncomputable def nn (N₀ W : Addr → Prop) : Addr → Prop := fun a => N₀ a ∨ W a
noncomputable def RVar (N₀ W : Addr → Prop) (h : Heap) : LV → Value → Prop
  | .own xs, y => ∃ a items, y = .ref a ∧ W a ∧ PlainL h a items ∧ IntsAre items.toList xs ∧ xs.length ≤ lim
  | .ownR xs, y => ∃ a items, y = .ref a ∧ W a ∧ PlainL h a items ∧ Paired (RT (nn N₀ W) h) xs items.toList ∧ xs.length ≤ lim
  | .mpu _ _, _ => True
  | v, y => RV (nn N₀ W) h v y
noncomputable abbrev NewP (h h' : Heap) (y : Value) : Prop := ∀ a, y = .ref a → h.get? a = none ∧ ∃ o, h'.get? a = some o ∧ o.dict = none
theorem plain_of {h : Heap} {a : Addr} {its : Array Value} (l : h.IsList a its) (p : ∃ o, h.get? a = some o ∧ o.dict = none) : PlainL h a its := by
  refine Classical.byContradiction fun hHid => ?_
  obtain ⟨o, e, c, n, d⟩ := l
  obtain ⟨o', e', dn⟩ := p
  refine hHid ?_
  clear hHid
  rw [e] at e'; (injection e' with e'; subst e')
  exact ⟨o, n, e, c, dn, d⟩
noncomputable def isStore (o : Obj) : Bool := match o.data with
  | .dict .. => true
  | .cell _ => true
  | _ => false
noncomputable def Evo (W : Addr → Prop) (h h' : Heap) : Prop := ∀ b o, h.get? b = some o → ¬ W b → isStore o = false → h'.get? b = some o
section
variable {N N' N₀ W : Addr → Prop} {h h' : Heap}
theorem list_store {a : Addr} {items : Array Value} (l : h.IsList a items) : ∃ o, h.get? a = some o ∧ isStore o = false ∧ o.cls = .type "list" ∧ ∃ n, o.data = .seq items n := by
  obtain ⟨o, e, c, n, d⟩ := l
  exact ⟨o, e, by unfold isStore; rw [d], c, n, d⟩
theorem list_evo {a : Addr} {items : Array Value} (l : h.IsList a items) (q : ¬ W a) (k : Evo W h h') : h'.IsList a items := by
  obtain ⟨o, e, s, r⟩ := list_store l
  exact ⟨o, k a o e q s, r⟩
noncomputable def Lists (W : Addr → Prop) (h : Heap) : Prop := ∀ a, W a → ∃ items, PlainL h a items
noncomputable def SeqK (N : Addr → Prop) (h h' : Heap) : Prop := ∀ b o a n, h.get? b = some o → o.data = .seq a n → (o.cls = .type "list" → ¬ N b) → h'.get? b = some o
theorem tup_ne_list : (Value.type "tuple") ≠ .type "list" := fun q => by injection q with z; exact absurd z (by decide)
theorem Evo.seqk (e : Evo W h h') (hN : ∀ b, W b → N b) (L : Lists W h) : SeqK N h h' := fun b o a n eo d q => e b o eo (fun w => by
  obtain ⟨its, o', _, eo', c, _⟩ := L b w
  rw [eo] at eo'; (injection eo' with eo'; subst eo')
  exact q c (hN b w)) (by unfold isStore; rw [d])
theorem SeqK.of_grow (k : ∀ b o, h.get? b = some o → h'.get? b = some o) : SeqK N h h' := fun b o _ _ e _ _ => k b o e
theorem RA.keepS {a : At} {y : Value} (r : RA N h a y) (k : SeqK N h h') : RA N h' a y := by
  cases a <;> try exact r
  obtain ⟨b, its, e, q, ⟨o, eo, c, n, d⟩, i, z⟩ := r
  exact ⟨b, its, e, q, ⟨o, k b o _ _ eo d fun _ => q, c, n, d⟩, i, z⟩
theorem RT.keepS {xs : List At} {y : Value} (r : RT N h xs y) (k : SeqK N h h') : RT N h' xs y := by
  obtain ⟨a, its, e, ⟨o, eo, c, n, d⟩, p⟩ := r
  exact ⟨a, its, e, ⟨o, k a o _ _ eo d fun q => absurd (c.symm.trans q) tup_ne_list, c, n, d⟩, p.mono fun _ _ q => q.keepS k⟩
theorem RV.keepS {v : LV} {y : Value} (r : RV N h v y) (k : SeqK N h h') : RV N h' v y := by
  cases v with
  | «at» a => exact RA.keepS r k
  | tup xs => exact RT.keepS r k
  | rows xs => obtain ⟨b, its, e, q, ⟨o, eo, c, n, d⟩, i, z⟩ := r; exact ⟨b, its, e, q, ⟨o, k b o _ _ eo d fun _ => q, c, n, d⟩, i.mono fun _ _ q => q.keepS k, z⟩
  | lists xs => obtain ⟨b, its, e, q, ⟨o, eo, c, n, d⟩, i, z⟩ := r; exact ⟨b, its, e, q, ⟨o, k b o _ _ eo d fun _ => q, c, n, d⟩, i.mono fun _ _ q => RA.keepS q k, z⟩
  | own _ => exact r
  | ownR _ => exact r
  | mpu _ _ => exact r
theorem RVar.keepS {v : LV} {y : Value} (r : RVar N₀ W h v y) (k : SeqK (nn N₀ W) h h') (ow : ∀ a its, Ow v = true → y = .ref a → W a → PlainL h a its → PlainL h' a its) : RVar N₀ W h' v y := by
  cases v with
  | own xs => obtain ⟨a, its, e, w, l, i⟩ := r; exact ⟨a, its, e, w, ow a its rfl e w l, i⟩
  | ownR xs => obtain ⟨a, its, e, w, l, p, z⟩ := r; exact ⟨a, its, e, w, ow a its rfl e w l, p.mono fun _ _ q => q.keepS k, z⟩
  | mpu _ _ => trivial
  | «at» a => exact RV.keepS (v := .at a) r k
  | tup xs => exact RV.keepS (v := .tup xs) r k
  | rows xs => exact RV.keepS (v := .rows xs) r k
  | lists xs => exact RV.keepS (v := .lists xs) r k
theorem RA.weak {a : At} {y : Value} (r : RA N h a y) (hN : ∀ b, (∃ o, h.get? b = some o) → N' b → N b) : RA N' h a y := by
  cases a <;> try exact r
  obtain ⟨b, its, e, q, l, i⟩ := r
  exact ⟨b, its, e, fun z => q (hN b (by obtain ⟨o, e, _⟩ := l; exact ⟨o, e⟩) z), l, i⟩
theorem RT.weak {xs : List At} {y : Value} (r : RT N h xs y) (hN : ∀ b, (∃ o, h.get? b = some o) → N' b → N b) : RT N' h xs y := by
  obtain ⟨a, its, e, l, p⟩ := r
  exact ⟨a, its, e, l, p.mono fun _ _ q => q.weak hN⟩
theorem RV.weak {v : LV} {y : Value} (r : RV N h v y) (hN : ∀ b, (∃ o, h.get? b = some o) → N' b → N b) : RV N' h v y := by
  have ex : ∀ {a : Addr} {its : Array Value}, h.IsList a its → ∃ o, h.get? a = some o := fun l => by obtain ⟨o, e, _⟩ := l; exact ⟨o, e⟩
  cases v with
  | «at» a => exact RA.weak r hN
  | tup xs => exact RT.weak r hN
  | rows xs => obtain ⟨b, its, e, q, l, i, z⟩ := r; exact ⟨b, its, e, fun z => q (hN b (ex l) z), l, i.mono fun _ _ q => q.weak hN, z⟩
  | lists xs => obtain ⟨b, its, e, q, l, i, z⟩ := r; exact ⟨b, its, e, fun z => q (hN b (ex l) z), l, i.mono fun _ _ q => q.weak hN, z⟩
  | own _ => exact r
  | ownR _ => exact r
  | mpu _ _ => exact r
theorem RA.keep2 {a : At} {y : Value} (r : RA N h a y) (k : SeqK N h h') (w : ∀ b, (∃ o, h.get? b = some o) → N' b → N b) : RA N' h' a y := by
  cases a <;> try exact r
  obtain ⟨b, its, e, q, ⟨o, eo, c, n, d⟩, i, z⟩ := r
  exact ⟨b, its, e, fun z => q (w b ⟨o, eo⟩ z), ⟨o, k b o _ _ eo d fun _ => q, c, n, d⟩, i, z⟩
theorem RT.keep2 {xs : List At} {y : Value} (r : RT N h xs y) (k : SeqK N h h') (w : ∀ b, (∃ o, h.get? b = some o) → N' b → N b) : RT N' h' xs y := by
  obtain ⟨a, its, e, ⟨o, eo, c, n, d⟩, p⟩ := r
  exact ⟨a, its, e, ⟨o, k a o _ _ eo d fun q => absurd (c.symm.trans q) tup_ne_list, c, n, d⟩, p.mono fun _ _ q => q.keep2 k w⟩
theorem RV.keep2 {v : LV} {y : Value} (r : RV N h v y) (k : SeqK N h h') (w : ∀ b, (∃ o, h.get? b = some o) → N' b → N b) : RV N' h' v y := by
  cases v with
  | «at» a => exact RA.keep2 r k w
  | tup xs => exact RT.keep2 r k w
  | rows xs => obtain ⟨b, its, e, q, ⟨o, eo, c, n, d⟩, i, z⟩ := r; exact ⟨b, its, e, fun z => q (w b ⟨o, eo⟩ z), ⟨o, k b o _ _ eo d fun _ => q, c, n, d⟩, i.mono fun _ _ q => q.keep2 k w, z⟩
  | lists xs => obtain ⟨b, its, e, q, ⟨o, eo, c, n, d⟩, i, z⟩ := r; exact ⟨b, its, e, fun z => q (w b ⟨o, eo⟩ z), ⟨o, k b o _ _ eo d fun _ => q, c, n, d⟩, i.mono fun _ _ q => RA.keep2 q k w, z⟩
  | own _ => exact r
  | ownR _ => exact r
  | mpu _ _ => exact r
noncomputable abbrev Grow (h h' : Heap) : Prop := ∀ b o, h.get? b = some o → h'.get? b = some o
theorem Evo.of_grow (k : Grow h h') : Evo W h h' := fun b o e _ _ => k b o e
theorem RA.grow {a : At} {y : Value} (r : RA N h a y) (k : Grow h h') : RA N h' a y := r.keepS (.of_grow k)
theorem RT.grow {xs : List At} {y : Value} (r : RT N h xs y) (k : Grow h h') : RT N h' xs y := r.keepS (.of_grow k)
theorem RV.grow {v : LV} {y : Value} (r : RV N h v y) (k : Grow h h') : RV N h' v y := r.keepS (.of_grow k)
theorem IsList.grow {a : Addr} {its : Array Value} (l : h.IsList a its) (k : Grow h h') : h'.IsList a its := by obtain ⟨o, e, r⟩ := l; exact ⟨o, k _ _ e, r⟩
theorem RVar.ow {v : LV} {y : Value} (r : RVar N₀ W h v y) (o : Ow v = true) : ∃ a its, y = .ref a ∧ W a ∧ PlainL h a its := by
  cases v with
  | own xs => obtain ⟨a, its, e, w, l, _⟩ := r; exact ⟨a, its, e, w, l⟩
  | ownR xs => obtain ⟨a, its, e, w, l, _⟩ := r; exact ⟨a, its, e, w, l⟩
  | _ => injection o
theorem RVar.grow {v : LV} {y : Value} (r : RVar N₀ W h v y) (k : Grow h h') : RVar N₀ W h' v y := r.keepS (.of_grow k) fun _ _ _ _ _ l => l.keeps k
theorem VarAt.grow {env : Env} {n : Str} {y : Value} (v : VarAt env h n y) (k : Grow h h') : VarAt env h' n y := by
  rcases v with ⟨a, m, hm, e⟩ | ⟨a, c, hc, hv⟩
  · exact .inl ⟨a, m, hm.keeps k, e⟩
  · exact .inr ⟨a, c, hc, hv.keeps k⟩
end
structure Mch (X : LX) (hs : Addr → Option Obj) (env : Env) (vars : List Str) (ρ : LLoc) (h : Heap) (I D L : Addr) (xs : List Int) (nm : Str) (σ : M) (mv : Nat) : Prop where
  own : ρ.at mv = some (.own xs)
  nam : vars[mv]? = some nm
  vL : VarAt env h nm (.ref L)
  mr : Mr (X.at I D L) { σ with mem := xs } h
  hD : hs D = none
  d0 : X.x.h₀.get? D = none
  l0 : X.x.h₀.get? L = none
  Dl : D ≠ env.locals
structure Rd (X : LX) (hs : Addr → Option Obj) (N₀ : Addr → Prop) (env : Env) (vars : List Str) (ρ : LLoc) (W : Addr → Prop) (h : Heap) : Prop where
  base : ∀ b o, X.x.h₀.get? b = some o → h.get? b = some o
  lists : Lists (nn N₀ W) h
  var : ∀ i n v, vars[i]? = some n → ρ.at i = some v → ∃ y, VarAt env h n y ∧ RVar N₀ W h v y
  mach : ∀ i n σ mv, vars[i]? = some n → ρ.at i = some (.mpu σ mv) → ∃ I D L xs nm, VarAt env h n (.ref I) ∧ Mch X hs env vars ρ h I D L xs nm σ mv
structure EnvL (env : Env) (vars : List Str) : Prop where
  kind : env.scope.kind = .function
  glob : env.globals = mainGlobals
  blt : env.builtins = builtinsNs
  nodbg : ∀ v ∈ vars, (v == ("__debug__" : Str)) = false
theorem Rd.grow {X : LX} {hs : Addr → Option Obj} {N₀ : Addr → Prop} {env : Env} {vars : List Str} {ρ : LLoc} {W : Addr → Prop} {h h' : Heap} (R : Rd X hs N₀ env vars ρ W h) (k : Grow h h') : Rd X hs N₀ env vars ρ W h' := by
  refine ⟨fun b o e => k b o (R.base b o e), fun a w => ?_, fun i n v hi hv => ?_, fun i n σ mv hi hv => ?_⟩
  · obtain ⟨its, l⟩ := R.lists a w; exact ⟨its, l.keeps k⟩
  · obtain ⟨y, a, r⟩ := R.var i n v hi hv; exact ⟨y, a.grow k, r.grow k⟩
  · obtain ⟨I, D, L, xs, nm, a, m⟩ := R.mach i n σ mv hi hv
    exact ⟨I, D, L, xs, nm, a.grow k, m.own, m.nam, m.vL.grow k, m.mr.grow k, m.hD, m.d0, m.l0, m.Dl⟩

noncomputable abbrev Ks (s s' : Shared) : Prop := ∃ h' t', s' = { s with heap := h', toks := t' }
noncomputable def Kg (s s' : Shared) : Prop := ∃ h' t', s' = { s with heap := h', toks := t' } ∧ Grow s.heap h'
theorem Kg.refl {s : Shared} : Kg s s := ⟨s.heap, s.toks, rfl, fun _ _ e => e⟩
theorem Kg.trans {a b c : Shared} (x : Kg a b) (y : Kg b c) : Kg a c := by
  obtain ⟨h, t, rfl, g⟩ := x; obtain ⟨h', t', rfl, g'⟩ := y
  exact ⟨h', t', rfl, fun b o e => g' b o (g b o e)⟩
theorem Kg.grow {s s' : Shared} (x : Kg s s') : Grow s.heap s'.heap := by obtain ⟨h, t, rfl, g⟩ := x; exact g
theorem Kg.tok {s : Shared} {t : Nat} : Kg s { s with toks := t } := ⟨s.heap, t, rfl, fun _ _ e => e⟩
theorem Kg.push {s : Shared} {o : Obj} {t : Nat} : Kg s { s with heap := s.heap.push o, toks := t } := ⟨_, t, rfl, fun _ _ e => Heap.get?_push_of_some _ e⟩
theorem Kg.push' {s : Shared} {o : Obj} : Kg s { s with heap := s.heap.push o } := ⟨_, s.toks, rfl, fun _ _ e => Heap.get?_push_of_some _ e⟩
theorem Kg.fresh {s s' : Shared} (x : Kg s s') : s.heap.get? s'.heap.objs.size = none := by
  cases e : s.heap.get? s'.heap.objs.size with
  | none => rfl
  | some o => exact absurd (Heap.lt_size (x.grow _ _ e)) (Nat.lt_irrefl _)
theorem Kg.ks {s s' : Shared} (x : Kg s s') : Ks s s' := by obtain ⟨h, t, e, _⟩ := x; exact ⟨h, t, e⟩
theorem Ks.refl {s : Shared} : Ks s s := ⟨s.heap, s.toks, rfl⟩
theorem Ks.trans {a b c : Shared} (x : Ks a b) (y : Ks b c) : Ks a c := by
  obtain ⟨h, t, rfl⟩ := x; obtain ⟨h', t', rfl⟩ := y
  exact ⟨h', t', rfl⟩
theorem fresh_notin {W : Addr → Prop} {h : Heap} {a : Addr} (x : Lists W h) (e : h.get? a = none) : ¬ W a := fun w => by
  obtain ⟨its, o, _, q, _⟩ := x a w; rw [e] at q; injection q
theorem fresh_size {h : Heap} : h.get? h.objs.size = none := by
  cases e : h.get? h.objs.size with
  | none => rfl
  | some o => exact absurd (Heap.lt_size e) (Nat.lt_irrefl _)

section
variable {X : LX} {hs : Addr → Option Obj} {N₀ : Addr → Prop} {env : Env} {vars : List Str} {ρ : LLoc} {W : Addr → Prop} {A : Around} {E' : Value → Shared → Prop} {s : Shared}
theorem load_at (EL : EnvL env vars) {i : Nat} {n : Str} {p : Pos} {y : Value} (hi : vars[i]? = some n) (hy : VarAt env s.heap n y) {Q : Value → Shared → Prop} (h : Q y s) : wpAny (model X.x.prog X.x.w) A (eval (.Name n p) env) Q E' s := by
  refine wpAny_Name ?_ (EL.nodbg n (List.mem_of_getElem? hi))
  rcases hy with ⟨k, m, hm, e⟩ | ⟨k, c, hc, hv⟩
  · exact wpAny_loadName_local EL.kind k hm e h
  · exact wpAny_loadName_cell EL.kind k hc hv h
theorem readV_of {v : Nat} {x : LV} (h : readV ρ v = some x) : ρ.at v = some x ∧ stable x = true := by
  refine bind_el h fun u e h => ?_
  obtain ⟨q, h⟩ := cond_of h
  (injection h with h; subst h)
  exact ⟨e, q⟩
theorem RVar.val {v : LV} {y : Value} {h : Heap} (r : RVar N₀ W h v y) (hv : stable v = true) : RV (nn N₀ W) h v y := by
  cases v <;> first | exact r | injection hv
theorem RV.var {v : LV} {y : Value} {h : Heap} (r : RV (nn N₀ W) h v y) : RVar N₀ W h v y := by
  cases v <;> first | exact r | exact r.elim
theorem load_var' (R : Rd X hs N₀ env vars ρ W s.heap) (EL : EnvL env vars) {i : Nat} {n : Str} {p : Pos} {v : LV} (hi : vars[i]? = some n) (hv : readV ρ i = some v) {Q : Value → Shared → Prop} (h : ∀ y, RV (nn N₀ W) s.heap v y → Q y s) :
    wpAny (model X.x.prog X.x.w) A (eval (.Name n p) env) Q E' s := by
  refine Classical.byContradiction fun hHid => ?_
  obtain ⟨e, st⟩ := readV_of hv
  obtain ⟨y, a, r⟩ := R.var i n v hi e
  refine hHid ?_
  clear hHid
  exact load_at EL hi a (h y (r.val st))
theorem load_own (R : Rd X hs N₀ env vars ρ W s.heap) (EL : EnvL env vars) {i : Nat} {n : Str} {p : Pos} {xs : List Int} (hi : vars[i]? = some n) (hv : ρ.at i = some (.own xs)) {Q : Value → Shared → Prop}
    (h : ∀ a items, VarAt env s.heap n (.ref a) → W a → PlainL s.heap a items → IntsAre items.toList xs → xs.length ≤ lim → Q (.ref a) s) : wpAny (model X.x.prog X.x.w) A (eval (.Name n p) env) Q E' s := by
  obtain ⟨y, a, b, its, rfl, w, l, i, z⟩ := R.var i n _ hi hv
  exact load_at EL hi a (h b its a w l i z)
theorem load_builtin (EL : EnvL env vars) (g : s.heap.Ns mainGlobals X.mg) (b : s.heap.Ns builtinsNs X.mb) {n : Str} {p : Pos} {v : Value} (hk : env.kindOf n = some .globalImplicit) (h1 : X.mg n = none) (h2 : X.mb n = some v)
    (hd : (n == ("__debug__" : Str)) = false) {Q : Value → Shared → Prop} (h : Q v s) : wpAny (model X.x.prog X.x.w) A (eval (.Name n p) env) Q E' s :=
  Calls.Name_function_global EL.kind hk (Calls.loadGlobal_builtin (by rw [EL.glob]; exact g) h1 (by rw [EL.blt]; exact b) h2 h) hd
theorem load_global (EL : EnvL env vars) (g : s.heap.Ns mainGlobals X.mg) {n : Str} {p : Pos} {v : Value} (hk : env.kindOf n = some .globalImplicit) (h1 : X.mg n = some v)
    (hd : (n == ("__debug__" : Str)) = false) {Q : Value → Shared → Prop} (h : Q v s) : wpAny (model X.x.prog X.x.w) A (eval (.Name n p) env) Q E' s :=
  Calls.Name_function_global EL.kind hk (Calls.loadGlobal_global (by rw [EL.glob]; exact g) h1 h) hd
end
end Mine

end
section
open PySem PySem.W PyProof.Rows
set_option maxRecDepth 100000
namespace Mine
structure AOk (A : Around) (d : Nat) : Prop where
  hh : A.handled = none
  dp : A.depth + d ≤ recursionLimit
  un : A.units + 4 * d + 80 < cLine
theorem AOk.deeper {A : Around} {d : Nat} {env : Env} (a : AOk A (d + 1)) : AOk (A.deeper env) d := by
  obtain ⟨h1, h2, h3⟩ := a
  exact ⟨h1, by show A.depth + 1 + d ≤ _; lia, by show A.units + 3 + 4 * d + 80 < _; lia⟩
theorem lim_size : lim ≤ sizeLine := by rw [sizeLine_eq]; decide
theorem lim_63 {n : Nat} (h : n ≤ lim) : (n : Int) < 2 ^ 63 := by
  have : (lim : Int) < 2 ^ 63 := by decide
  have : (n : Int) ≤ lim := Int.ofNat_le.mpr h
  lia

section
variable {prog : Program} {w : World} {A : Around} {E : Value → Shared → Prop} {s : Shared}
theorem ints_len {items : Array Value} {xs : List Int} (h : IntsAre items.toList xs) : items.size = xs.length := by rw [← h.length, Array.length_toList]
theorem add_raw {l b : Addr} {is js : Array Value} {Q : Value → Shared → Prop} (hl : s.heap.IsList l is) (hb : s.heap.IsList b js) (hsz : is.size + js.size ≤ sizeLine)
    (h : Q (.ref s.heap.objs.size) { s with heap := s.heap.push { cls := .type "list", data := .seq (is ++ js) } }) : wpAny (model prog w) A (binaryOp .Add (.ref l) (.ref b)) Q E s := by
  obtain ⟨⟨cls, dd, data, sl⟩, ho, hc, n, hd⟩ := id hl
  obtain ⟨⟨cls2, dd2, data2, sl2⟩, ho2, hc2, n2, hd2⟩ := id hb
  simp only at hc hd hc2 hd2
  subst hc hd hc2 hd2
  exact concat_meets ⟨_, ho, rfl⟩ ⟨_, ho2, rfl⟩ noFill_list_add seq_list_add PySem.F.slot_list_add PySem.F.entry_list_add (PySem.F.args_list_add_2 _ _) (list_addW l b is js n n2 dd dd2 sl sl2 hsz) ⟨ho, ho2, h⟩
theorem ints_flat {vs : List Value} {xs : List Int} (h : IntsAre vs xs) : ∀ n, IntsAre (List.replicate n vs).flatten (List.replicate n xs).flatten
  | 0 => .nil
  | n + 1 => by rw [List.replicate_succ, List.replicate_succ, List.flatten_cons, List.flatten_cons]; exact h.append (ints_flat h n)
theorem mul_raw {l : Addr} {is : Array Value} {x : Int} {u : Tok} {Q : Value → Shared → Prop} (hl : s.heap.IsList l is) (h0 : 0 ≤ x) (h1 : x ≤ lim) (hsz : is.size * x.toNat ≤ lim)
    (h : Q (.ref s.heap.objs.size) { s with heap := s.heap.push { cls := .type "list", data := .seq (List.replicate x.toNat is.toList).flatten.toArray } }) : wpAny (model prog w) A (binaryOp .Mult (.ref l) (.int x u)) Q E s := by
  obtain ⟨⟨cls, d, data, sl⟩, ho, hcl, k, hd⟩ := id hl
  simp only at hcl hd
  subst hcl hd
  have hl : (lim : Int) < 2 ^ 24 := by decide
  have hl' : lim < 2 ^ 24 := by decide
  have hsz' : is.size * x.toNat ≤ 2 ^ 24 := by lia
  refine wpAny_binaryOp_repeat_ref (T := "list") (U := "int") (by decide) ⟨_, ho, rfl⟩ (fun s' => typeIs_int s' x u) noFill_list_mul F.fills_int_mul F.slot_int_rmul repeat_list F.slot_int_index.lookup
    (call_meets F.slot_int_rmul (typeIs_int s x u) F.entry_int_rmul (F.args_int_rmul_2 _ _) (lm_int_rmul_list_any x u l is k d sl)
      ⟨ho, rfl, ⟨_, ho, rfl⟩, call_meets F.slot_list_mul ⟨_, ho, rfl⟩ F.entry_list_mul (F.args_list_mul_2 _ _)
        (lm_list_mul_any l is k d sl x u (by simp [Builtin.List.listFitsIndex]; lia) (by lia) (by simp [Builtin.List.listTooLong, sizeLine]; lia))
        ⟨ho, ?_⟩⟩)
  rw [listMul_foldl_if is x.toNat]
  exact h
end
end Mine

end
section
open PySem PySem.W PyProof.Rows
set_option maxRecDepth 100000
namespace Mine
noncomputable def bltT : List (Str × Value) := [("len", .builtin "len"), ("sum", .builtin "sum"), ("divmod", .builtin "divmod"), ("range", .type "range"), ("enumerate", .type "enumerate")]
structure LOk (X : LX) : Prop where
  ok : ∀ I D L, X.x.h₀.get? D = none → X.x.h₀.get? L = none → D ≠ L → Ok (X.at I D L)
  sm : Small X.x
  g : X.x.h₀.Ns mainGlobals X.mg
  b : X.x.h₀.Ns builtinsNs X.mb
  blt : ∀ n v, (n, v) ∈ bltT → X.mg n = none ∧ X.mb n = some v
  mpu : X.mg "MPU" = some (.ref X.x.C)
  keep : keepIn X.x.K (.ref X.x.C) = true
  makes : makesIn X.x.K X.x.C = true
  init : findIn X.x.K (.ref X.x.C) "__init__" = some (some (.ref (X.x.fnA X.im)))
  initT : typeIn X.x.K (.ref (X.x.fnA X.im)) = some (.type "function")
  initB : ∀ (s : Shared) (fd : FuncData) (md : MethD) (self m p : Value), X.x.c.P[X.im]? = some md → X.x.K.lookup (X.x.fnA X.im) = some ⟨.type "function", none, .func fd, #[]⟩ → X.x.K.In s.heap →
    BindsTo s fd ⟨[self], [("memory", m), ("pc", p)]⟩ ((md.vars.take md.np).zip [self, m, p])
noncomputable def clOf (cells : List (Str × Addr)) : List (Str × NameKind) → List (Str × Addr) → List (Str × Addr)
  | [], acc => acc
  | (n, k) :: r, acc => match k == .free, cells.lookup n with
    | true, some c => clOf cells r ((n, c) :: acc)
    | _, _ => clOf cells r acc
theorem closure_go {env : Env} (f : Str × NameKind → List (Str × Addr) → Sem (ForInStep (List (Str × Addr))))
    (hf : ∀ n k cs, f (n, k) cs = if k == .free then (do let c ← cellOf env n; pure (.yield ((n, c) :: cs))) else pure (.yield cs)) :
    ∀ (names : List (Str × NameKind)) (acc : List (Str × Addr)), (∀ y ∈ names, y.2 = .free → ∃ c, env.cells.lookup y.1 = some c) → forIn names acc f = (pure (clOf env.cells names acc) : Sem _)
  | [], acc, _ => rfl
  | (n, k) :: r, acc, h => by
    rw [List.forIn_cons, hf]
    have hr := fun y hy => h y (List.mem_cons_of_mem _ hy)
    unfold clOf
    cases hk : k == NameKind.free with
    | false =>
      simp only [Bool.false_eq_true, if_false, pure_bind]
      exact closure_go f hf r acc hr
    | true =>
      obtain ⟨c, hc⟩ := h (n, k) List.mem_cons_self (beq_iff_eq.mp hk)
      dsimp only at hc
      simp only [if_true, hc, cellOf, pure_bind, bind_pure_comp]
      exact closure_go f hf r _ hr
theorem closure_eq {env : Env} {scope : Scope} (h : ∀ y ∈ scope.names, y.2 = .free → ∃ c, env.cells.lookup y.1 = some c) : closureFor scope env = pure (clOf env.cells scope.names []) := by
  have e := closure_go (env := env) (fun x cs => match x with | (n, k) => if (k == .free) = true then (do let c ← cellOf env n; pure (.yield ((n, c) :: cs))) else pure (.yield cs)) (fun _ _ _ => rfl) scope.names [] h
  show ((forIn scope.names [] fun x cs => match x with | (n, k) => if (k == .free) = true then (do let c ← cellOf env n; pure (.yield ((n, c) :: cs))) else pure (.yield cs)) >>= fun cs => (pure cs : Sem _)) = _
  rw [e]; rfl
theorem clOf_lookup {cells : List (Str × Addr)} : ∀ (names : List (Str × NameKind)) (acc : List (Str × Addr)), (∀ n c, acc.lookup n = some c → cells.lookup n = some c) →
    (∀ n c, (clOf cells names acc).lookup n = some c → cells.lookup n = some c) ∧ (∀ n, ((acc.lookup n).isSome = true ∨ ((n, NameKind.free) ∈ names ∧ (cells.lookup n).isSome = true)) → ((clOf cells names acc).lookup n).isSome = true)
  | [], acc, h => ⟨h, fun n q => by rcases q with q | ⟨q, _⟩; exact q; cases q⟩
  | (m, k) :: r, acc, h => by
    unfold clOf
    split
    · rename_i c hk hc
      have h' : ∀ n d, ((m, c) :: acc).lookup n = some d → cells.lookup n = some d := fun n d q => by
        rw [List.lookup_cons] at q
        cases e : n == m with
        | true => rw [e] at q; (injection q with q; subst q); rw [beq_iff_eq.mp e]; exact hc
        | false => rw [e] at q; exact h n d q
      obtain ⟨a, b⟩ := clOf_lookup r ((m, c) :: acc) h'
      refine ⟨a, fun n q => b n ?_⟩
      rcases q with q | ⟨q, q'⟩
      · left; rw [List.lookup_cons]; cases e : n == m <;> simp [q]
      · rcases List.mem_cons.mp q with e | q
        · (injection e with e; subst e); left; rw [List.lookup_cons]; simp
        · exact .inr ⟨q, q'⟩
    · rename_i hn
      obtain ⟨a, b⟩ := clOf_lookup r acc h
      refine ⟨a, fun n q => b n ?_⟩
      rcases q with q | ⟨q, q'⟩
      · exact .inl q
      · rcases List.mem_cons.mp q with e | q
        · cases e
          obtain ⟨c, hc⟩ := Option.isSome_iff_exists.mp q'
          exact absurd hc (hn c rfl)
        · exact .inr ⟨q, q'⟩
theorem relabel_cell {env : Env} : ∀ {names : List (Str × NameKind)} {n : Str}, (∀ y ∈ names, y.2 ≠ .cell) → env.scope.kind = .function →
    ((names.map fun (n, k) => if (k == NameKind.free && env.scope.kind == .function && env.kindOf n == some .cell) then (n, NameKind.cell) else (n, k)).lookup n = some .cell ↔ names.lookup n = some .free ∧ env.kindOf n = some .cell)
  | [], n, _, _ => by simp
  | (m, k) :: r, n, h, hk => by
    have ih := @relabel_cell env r n (fun y hy => h y (List.mem_cons_of_mem _ hy)) hk
    have hkc : k ≠ .cell := h (m, k) List.mem_cons_self
    have e1 : ((if (k == NameKind.free && env.scope.kind == .function && env.kindOf m == some .cell) = true then (m, NameKind.cell) else (m, k)) : Str × NameKind).1 = m := by split <;> rfl
    show List.lookup n ((if (k == NameKind.free && env.scope.kind == .function && env.kindOf m == some .cell) = true then (m, NameKind.cell) else (m, k)) :: _) = _ ↔ _
    generalize hg : (if (k == NameKind.free && env.scope.kind == .function && env.kindOf m == some .cell) = true then (m, NameKind.cell) else (m, k)) = z at e1
    obtain ⟨z1, z2⟩ := z
    dsimp only at e1
    subst e1
    rw [List.lookup_cons, List.lookup_cons]
    cases e : n == z1 with
    | false => exact ih
    | true =>
      have en : n = z1 := beq_iff_eq.mp e
      subst en
      dsimp only
      simp only [Option.some.injEq]
      constructor
      · intro q
        subst q
        split at hg
        · rename_i c
          simp only [Bool.and_eq_true, beq_iff_eq] at c
          exact ⟨c.1.1, c.2⟩
        · (injection hg with hg hz; cases hg; subst hz); exact absurd rfl hkc
      · rintro ⟨rfl, q⟩
        rw [if_pos (by simp [hk, q])] at hg
        (injection hg with hg hz; cases hg; subst hz); rfl
theorem relabel_glob {env : Env} : ∀ {names : List (Str × NameKind)} {n : Str} {k : NameKind}, k ≠ .free → k ≠ .cell → names.lookup n = some k →
    (names.map fun (n, k) => if (k == NameKind.free && env.scope.kind == .function && env.kindOf n == some .cell) then (n, NameKind.cell) else (n, k)).lookup n = some k
  | [], _, _, _, _, h => by simp at h
  | (m, j) :: r, n, k, h1, h2, h => by
    have ih := @relabel_glob env r n k h1 h2
    show List.lookup n ((if (j == NameKind.free && env.scope.kind == .function && env.kindOf m == some .cell) = true then (m, NameKind.cell) else (m, j)) :: _) = _
    cases hx : n == m with
    | true =>
      simp only [List.lookup_cons, hx] at h
      (injection h with h; subst h)
      have : (j == NameKind.free) = false := by simpa using h1
      simp [List.lookup_cons, hx, this]
    | false =>
      simp only [List.lookup_cons, hx] at h
      by_cases hc : (j == NameKind.free && env.scope.kind == .function && env.kindOf m == some .cell) = true
      · rw [if_pos hc]; simp only [List.lookup_cons, hx]; exact ih h
      · rw [if_neg hc]; simp only [List.lookup_cons, hx]; exact ih h
end Mine

end
section
open PySem PySem.W PyProof.Rows
set_option maxRecDepth 100000
set_option linter.unusedSimpArgs false
set_option linter.unusedVariables false
namespace Mine
noncomputable def fl (b : Bool) (N : Addr → Prop) : Addr → Prop := fun a => b = true ∧ N a
theorem RV.unfl {N : Addr → Prop} {h : Heap} {v : LV} {y : Value} {b : Bool} (r : RV (fl b N) h v y) (hb : b = true) : RV N h v y := r.weak fun _ _ q => ⟨hb, q⟩
theorem RV.tofl {N : Addr → Prop} {h : Heap} {v : LV} {y : Value} {b : Bool} (r : RV N h v y) : RV (fl b N) h v y := r.weak fun _ _ q => q.2
noncomputable def CallLOk (X : LX) (A : Around) (cf : Nat → List LV → Option LV) : Prop :=
  ∀ (f : Nat) (args : List LV) (v : LV), cf f args = some v → ∃ fd, X.F[f]? = some fd ∧ X.mg fd.nm = some (.ref (X.fA f)) ∧ (fd.nm == ("__debug__" : Str)) = false ∧ (∃ o fdt, X.x.h₀.get? (X.fA f) = some o ∧ o.data = .func fdt) ∧
    ∀ (s : Shared) (N : Addr → Prop) (vals : List Value) (R : Result → Shared → Prop), (∀ b o, X.x.h₀.get? b = some o → s.heap.get? b = some o) → Lists N s.heap → Paired (RV N s.heap) args vals →
      (∀ y s', RV N s'.heap v y → Kg s s' → R (.ok (.ret y)) s') → codeAny (model X.x.prog X.x.w) A (.call (.ref (X.fA f)) ⟨vals, []⟩) R s
structure KOk (k : LC) (env : Env) : Prop where
  g : ∀ n, k.names.lookup n = some .globalImplicit → env.kindOf n = some .globalImplicit
  c : ∀ n, k.names.lookup n = some .cell → env.kindOf n = some .cell ∧ ∃ c, env.cells.lookup n = some c
theorem isVarL_of {k : LC} {v : Nat} {n : Str} (h : k.isVar v n = true) : k.vars[v]? = some n := beq_iff_eq.mp h
theorem isGlob_of {k : LC} {n : Str} (h : k.isGlob n = true) : k.names.lookup n = some .globalImplicit := beq_iff_eq.mp h
theorem plainL_sub {e : PySem.Expr} (h : plainL e = true) (o i : Value) : subscripted e false o i = operate [o, i] (getItem o i) := by
  cases e <;> first | rfl | injection h
theorem plainL_star {e : PySem.Expr} (h : plainL e = true) (env : Env) (rest : List PySem.Expr) : starEach (e :: rest) env = (false, eval e env) :: starEach rest env := by
  cases e <;> first | rfl | injection h
theorem plainL_marks {e : PySem.Expr} (h : plainL e = true) (op : COp) : behindInMarks op.op e = false := op_marks op e (by cases e <;> first | rfl | injection h)
section
variable {X : LX} {A : Around} {E' : Value → Shared → Prop} {s : Shared}
theorem LOp.binary {op : LOp} {a b r : Int} {t u : Tok} (e : op.ev a b = some r) {Q : Value → Shared → Prop} (h : ∀ t, Q (.int r t) { s with toks := s.toks + 1 }) : wpAny (model X.x.prog X.x.w) A (binaryOp op.op (.int a t) (.int b u)) Q E' s := by
  cases op <;> simp only [LOp.ev, Option.some.injEq] at e
  · subst e; exact add_int (h _)
  · subst e; exact sub_int (h _)
  · split at e
    · rename_i q; (injection e with e; subst e)
      refine PyProof.Rows.mul_int (h _) ?_
      rcases q with q | q
      · exact IntMulOk.of_left (PySem.intBits_le_64 (by lia) (by lia))
      · exact IntMulOk.of_right (PySem.intBits_le_64 (by lia) (by lia))
    · injection e
  · split at e
    · rename_i q; (injection e with e; subst e); exact floordiv_int q.1 (h _) (Or.inl (PyProof.noPylong_small q.2))
    · injection e
  · split at e
    · rename_i q; (injection e with e; subst e); exact mod_int' q (h _)
    · injection e
  · split at e
    · rename_i q; (injection e with e; subst e); exact pow_int_small q.1 (by lia) q.2.2 (h _)
    · injection e
theorem LOp.inplace {op : LOp} {a b r : Int} {t u : Tok} (e : op.ev a b = some r) {Q : Value → Shared → Prop} (h : ∀ t, Q (.int r t) { s with toks := s.toks + 1 }) : wpAny (model X.x.prog X.x.w) A (inplaceOp op.op (.int a t) (.int b u)) Q E' s := by
  cases op <;> simp only [LOp.ev, Option.some.injEq] at e
  · subst e; exact PySem.P.iadd_int (h _)
  · subst e; exact PySem.P.isub_int (h _)
  · split at e
    · rename_i q; (injection e with e; subst e)
      refine imul_int (h _) ?_
      rcases q with q | q
      · exact IntMulOk.of_left (PySem.intBits_le_64 (by lia) (by lia))
      · exact IntMulOk.of_right (PySem.intBits_le_64 (by lia) (by lia))
    · injection e
  · split at e
    · rename_i q; (injection e with e; subst e); exact ifloordiv_int q.1 (h _) (Or.inl (PyProof.noPylong_small q.2))
    · injection e
  · split at e
    · rename_i q; (injection e with e; subst e); exact imod_int q (h _)
    · injection e
  · split at e
    · rename_i q; (injection e with e; subst e); exact ipow_int_small q.1 (by lia) q.2.2 (h _)
    · injection e
end
end Mine

end
section
open PySem PySem.W PyProof.Rows
set_option maxRecDepth 100000
set_option maxHeartbeats 1000000
set_option linter.unusedSimpArgs false
set_option linter.unusedVariables false
set_option linter.unusedSectionVars false
namespace Mine
section
variable (X : LX) (A : Around) (cf : Nat → List LV → Option LV)
noncomputable def GoodE (e : LE) : Prop := ∀ (k : LC) (env : Env) (ρ : LLoc) (hs : Addr → Option Obj) (N₀ W : Addr → Prop) (ex : PySem.Expr) (v : LV), trL X.F k e ex = true → evL cf e ρ = some v → EnvL env k.vars → KOk k env → ρ.length = k.vars.length →
  ∀ (s : Shared) (Q : Value → Shared → Prop) (E' : Value → Shared → Prop), Rd X hs N₀ env k.vars ρ W s.heap → (∀ y s', RV (fl (stb e) (nn N₀ W)) s'.heap v y → Kg s s' → Q y s') → wpAny (model X.x.prog X.x.w) A (eval ex env) Q E' s
noncomputable def GoodF (e : LE) : Prop := ∀ (k : LC) (env : Env) (ρ : LLoc) (hs : Addr → Option Obj) (N₀ W : Addr → Prop) (ex : PySem.Expr) (v : LV), trL X.F k e ex = true → evL cf e ρ = some v → EnvL env k.vars → KOk k env → ρ.length = k.vars.length →
  ∀ (s : Shared) (Q : Value → Shared → Prop) (E' : Value → Shared → Prop), Rd X hs N₀ env k.vars ρ W s.heap → (∀ y s', RV (fl (stb e) (nn N₀ W)) s'.heap v y → Kg s s' → NewP s.heap s'.heap y → Q y s') → wpAny (model X.x.prog X.x.w) A (eval ex env) Q E' s
noncomputable def GoodT (e : LE) : Prop := ∀ (k : LC) (env : Env) (ρ : LLoc) (hs : Addr → Option Obj) (N₀ W : Addr → Prop) (ex : PySem.Expr) (v : LV) (b : Bool), trL X.F k e ex = true → evL cf e ρ = some v → truthL v = some b → EnvL env k.vars → KOk k env → ρ.length = k.vars.length →
  ∀ (s : Shared) (Q : Bool → Shared → Prop) (E' : Value → Shared → Prop), Rd X hs N₀ env k.vars ρ W s.heap → (∀ s', Kg s s' → Q b s') → wpAny (model X.x.prog X.x.w) A (isTrue ex env (eval ex env)) Q E' s
noncomputable def GoodEs (es : LEs) : Prop := ∀ (k : LC) (env : Env) (ρ : LLoc) (hs : Addr → Option Obj) (N₀ W : Addr → Prop) (l : List PySem.Expr) (vs : List LV) (pos : Pos), trLs X.F k es l = true → evLs cf es ρ = some vs → EnvL env k.vars → KOk k env → ρ.length = k.vars.length →
  ∀ (s : Shared) (Q : List Value → Shared → Prop) (E' : Value → Shared → Prop), Rd X hs N₀ env k.vars ρ W s.heap → (∀ ys s', Paired (RV (fl (stb.stbs es) (nn N₀ W)) s'.heap) vs ys → Kg s s' → Q ys s') → wpAny (model X.x.prog X.x.w) A (spliced (backTo pos (starEach l env))) Q E' s
inductive SrcIt (N₀ W : Addr → Prop) (s : Shared) (items : List LV) (it : Value) (s₂ : Shared) : Prop
  | mk (I : Addr) (fp : List Addr) (P : Nat → Value → Prop) (St : Nat → Heap → Prop) (hp : Heap) (eq : it = .ref I) (sz : items.length ≤ lim) (wk : Walks X.x.prog X.x.w A I fp [I] items.length P St) (st : St 0 s₂.heap) (nI : hp.get? I = none) (g1 : Grow s.heap hp) (g2 : Grow hp s₂.heap) (kg : Kg s s₂) (eI : ∃ o, s₂.heap.get? I = some o)
    (hfp : ∀ b ∈ fp, b = I ∨ ∃ o, hp.get? b = some o ∧ isStore o = false ∧ ¬ W b)
    (hP : ∀ i v, P i v → ∃ lv, items[i]? = some lv ∧ RV (nn N₀ W) hp lv v)
    (stK : ∀ i (h : Heap) b o, St i h → b ∈ fp → h.get? b = some o → isStore o = false)
    (itK : ∀ i (h : Heap), St i h → ∃ o vs, h.get? I = some o ∧ o.data = .fields vs ∧ o.cls ≠ .type "method")
    (go : ∀ i (s' : Shared) T elts j pos (Q : Unit → Shared → Prop) E, St i s'.heap → Q () s' → wpAny (model X.x.prog X.x.w) A (letOwnedTupleGo (.Tuple elts j pos) (.ref I) (.ref T)) Q E s')
noncomputable def GoodS (src : LSrc) : Prop := ∀ (k : LC) (env : Env) (ρ : LLoc) (hs : Addr → Option Obj) (N₀ W : Addr → Prop) (ex : PySem.Expr) (items : List LV), trSrc X.F k src ex = true → evSrc cf src ρ = some items → EnvL env k.vars → KOk k env → ρ.length = k.vars.length →
  ∀ (s : Shared) (Q : Value → Shared → Prop) (E' : Value → Shared → Prop), Rd X hs N₀ env k.vars ρ W s.heap → (∀ it s₂, SrcIt X A N₀ W s items it s₂ → Q it s₂) → wpAny (model X.x.prog X.x.w) A (eval ex env) (fun x s₁ => wpAny (model X.x.prog X.x.w) A (pyIter x) Q E' s₁) E' s
end
section
variable {X : LX} {A : Around} {cf : Nat → List LV → Option LV}
theorem truthyL_of {s : Shared} {N : Addr → Prop} {v : LV} {y : Value} {b : Bool} {Q : Bool → Shared → Prop} {E' : Value → Shared → Prop} (r : RV N s.heap v y) (t : truthL v = some b) (h : ∀ s', Kg s s' → Q b s') : wpAny (model X.x.prog X.x.w) A (truthy y) Q E' s := by
  cases v with
  | «at» a =>
    cases a with
    | int i => obtain ⟨u, rfl⟩ := r; (injection t with t; subst t); exact PyProof.Rows.truthy_int (h _ .refl)
    | bool c => obtain rfl := r; (injection t with t; subst t); exact wpAny_truthy_bool (h _ .refl)
    | none => obtain rfl := r; (injection t with t; subst t); exact truthy_none (h _ .refl)
    | «ints» xs =>
      obtain ⟨a, its, rfl, _, l, i, z⟩ := r
      (injection t with t; subst t)
      have hz : its.size = xs.length := ints_len i
      have e : (!its.isEmpty) = !xs.isEmpty := by
        unfold Array.isEmpty
        rw [hz]
        cases xs <;> simp
      exact wpAny_truthy_list l (lim_63 (by rw [hz]; exact z)) (by rw [e]; exact h _ .tok)
  | tup xs => injection t
  | rows xs => injection t
  | lists xs => injection t
  | own xs => injection t
  | ownR xs => injection t
  | mpu σ mv => injection t
theorem goodT_of {e : LE} (g : GoodE X A cf e) (hi : ∀ k ex env, trL X.F k e ex = true → isTrue ex env (eval ex env) = (do let v ← eval ex env; standAt ex.pos; holding [v] (truthy v))) : GoodT X A cf e :=
  fun k env ρ hs N₀ W ex v b ht he hb EL KO hl s Q E' R h =>
    isTrue_plain (g k env ρ hs N₀ W ex v ht he EL KO hl s _ _ R fun y s' r k' => truthyL_of r hb fun s'' k'' => h s'' (k'.trans k'')) (hi k ex env ht)
theorem g_int (i : Int) : GoodE X A cf (.int i) := by
  intro k env ρ hs N₀ W ex v ht he EL KO hl s Q E' R h
  refine inv_trL_int ht fun _ _ _ hx₀ ht => ?_
  subst hx₀
  obtain rfl := beq_iff_eq.mp ht
  (injection he with he; subst he)
  exact wpAny_Constant_int (h _ _ ⟨_, rfl⟩ .tok)
theorem g_bool (b : Bool) : GoodE X A cf (.bool b) := by
  intro k env ρ hs N₀ W ex v ht he EL KO hl s Q E' R h
  refine inv_trL_bool ht fun _ _ _ hx₀ ht => ?_
  subst hx₀
  obtain rfl := beq_iff_eq.mp ht
  (injection he with he; subst he)
  exact wpAny_Constant_bool (h _ _ rfl .refl)
theorem g_none : GoodE X A cf .none := by
  intro k env ρ hs N₀ W ex v ht he EL KO hl s Q E' R h
  refine inv_trL_none ht fun _ _ hx₀ ht => ?_
  subst hx₀
  (injection he with he; subst he)
  exact wpAny_Constant_none (h _ _ rfl .refl)
theorem g_var (i : Nat) : GoodE X A cf (.var i) := by
  intro k env ρ hs N₀ W ex v ht he EL KO hl s Q E' R h
  refine inv_trL_var ht fun _ _ hx₀ ht => ?_
  subst hx₀
  exact load_var' R EL (isVarL_of ht) he fun y r => h y s r.tofl .refl
theorem g_own (i : Nat) : GoodE X A cf (.own i) := by
  intro k env ρ hs N₀ W ex v ht he EL KO hl s Q E' R h
  refine inv_trL_own ht fun _ _ hx₀ ht => ?_
  subst hx₀
  refine bind_el he fun u hx he => ?_
  refine map_el he fun xs hu e => ?_
  subst e
  cases LV.own?_of hu
  exact load_own R EL (isVarL_of ht) hx fun a its _ _ l ia z => h _ s ⟨a, its, rfl, fun q => (by cases q.1), l.isList, ia, z⟩ .refl
theorem fresh_ints {N : Addr → Prop} {b : Bool} {h : Heap} {its : List Value} {xs : List Int} (x : Lists N h) (i : IntsAre its xs) (z : xs.length ≤ lim) : RV (fl b N) (h.push { cls := .type "list", data := .seq its.toArray }) (.ints xs) (.ref h.objs.size) :=
  ⟨_, its.toArray, rfl, fun q => fresh_notin x fresh_size q.2, ⟨_, Heap.get?_push_size _ rfl, rfl, _, rfl⟩, by simpa using i, z⟩
theorem GoodF.toE {e : LE} (g : GoodF X A cf e) : GoodE X A cf e := fun k env ρ hs N₀ W ex v ht he EL KO hl s Q E' R h => g k env ρ hs N₀ W ex v ht he EL KO hl s Q E' R fun y s' r k' _ => h y s' r k'
theorem paired_app {α β : Type} {F : α → β → Prop} : ∀ {l₁ : List α} {l₂ : List β} {m₁ : List α} {m₂ : List β}, Paired F l₁ l₂ → Paired F m₁ m₂ → Paired F (l₁ ++ m₁) (l₂ ++ m₂)
  | _, _, _, _, .nil, h => h
  | _, _, _, _, .cons r p, h => .cons r (paired_app p h)
theorem rowsE_list {N : Addr → Prop} {h : Heap} {x : LV} {y : Value} {xs : List (List At)} (r : RV N h x y) (e : x.rowsE? = some xs) : ∃ a items, y = .ref a ∧ h.IsList a items ∧ Paired (RT N h) xs items.toList := by
  rcases LV.rowsE?_of e with rfl | ⟨rfl, rfl⟩
  · obtain ⟨a, its, e, _, l, p, _⟩ := r; exact ⟨a, its, e, l, p⟩
  · obtain ⟨a, its, e, _, l, i, _⟩ := r
    refine ⟨a, its, e, l, ?_⟩
    generalize its.toList = L at i
    cases i; exact .nil
theorem bin_of {op : LOp} {x y v : LV} {a b : Value} {s : Shared} {N : Addr → Prop} {f1 f2 f3 : Bool} (L : Lists N s.heap) (ra : RV (fl f1 N) s.heap x a) (rb : RV (fl f2 N) s.heap y b) (h3 : f3 = true → f1 = true ∧ f2 = true) (he : binV op x y = some v) {Q : Value → Shared → Prop} {E' : Value → Shared → Prop}
    (h : ∀ y s', RV (fl f3 N) s'.heap v y → Kg s s' → (∀ a, y = .ref a → s.heap.objs.size = a ∧ ∃ o, s'.heap.get? a = some o ∧ o.dict = none) → Q y s') : wpAny (model X.x.prog X.x.w) A (binaryOp op.op a b) Q E' s := by
  rcases alt_of he with ⟨i, hi, he⟩ | he
  · obtain ⟨j, hj, he⟩ := bind_of he
    refine map_el he fun r hr e => ?_
    subst e
    cases LV.int?_of hi
    cases LV.int?_of hj
    obtain ⟨t, rfl⟩ := ra
    obtain ⟨u, rfl⟩ := rb
    exact LOp.binary hr fun t => h _ _ ⟨t, rfl⟩ .tok fun a q => nomatch q
  rcases orO_of he with he | he
  · obtain ⟨xs, hxs, he⟩ := bind_of he
    cases LV.ints?_of hxs
    obtain ⟨a1, i1, rfl, _, l1, n1, _⟩ := ra
    rcases alt_of he with ⟨ys, hys, he⟩ | he
    · obtain ⟨⟨rfl, q⟩, e⟩ := ite_of he
      (injection e with e; subst e)
      cases LV.ints?_of hys
      obtain ⟨a2, i2, rfl, _, l2, n2, _⟩ := rb
      refine add_raw l1 l2 (by rw [ints_len n1, ints_len n2]; rw [List.length_append] at q; exact Nat.le_trans q lim_size) ?_
      have e : (i1 ++ i2) = (i1.toList ++ i2.toList).toArray := by rw [← Array.toList_append, Array.toArray_toList]
      rw [e]
      exact h _ _ (fresh_ints L (n1.append n2) q) .push' fun a q => by (injection q with q; subst q); exact ⟨rfl, _, Heap.get?_push_size _ rfl, rfl⟩
    · obtain ⟨n, hn, he⟩ := bind_of he
      obtain ⟨⟨rfl, q0, q1, q2⟩, e⟩ := ite_of he
      (injection e with e; subst e)
      cases LV.int?_of hn
      obtain ⟨u, rfl⟩ := rb
      refine mul_raw l1 q0 q1 (by rw [ints_len n1]; exact q2) (h _ _ (fresh_ints L (ints_flat n1 _) ?_) .push' fun a q => by (injection q with q; subst q); exact ⟨rfl, _, Heap.get?_push_size _ rfl, rfl⟩)
      unfold repeatL
      rw [List.length_flatten, List.map_replicate, List.sum_replicate_nat, Nat.mul_comm]
      exact q2
  · obtain ⟨xs, hxs, he⟩ := bind_of he
    refine bind_el he fun ys hys he => ?_
    obtain ⟨⟨rfl, q⟩, e⟩ := ite_of he
    (injection e with e; subst e)
    obtain ⟨a1, i1, rfl, l1, p1⟩ := rowsE_list ra hxs
    obtain ⟨a2, i2, rfl, l2, p2⟩ := rowsE_list rb hys
    refine add_raw l1 l2 (by rw [← Array.length_toList, ← Array.length_toList, ← p1.length, ← p2.length]; rw [List.length_append] at q; exact Nat.le_trans q lim_size) ?_
    have gr : Grow s.heap (s.heap.push { cls := .type "list", data := .seq (i1 ++ i2) }) := (Kg.push' (s := s)).grow
    have w1 : ∀ {x : List At} {y : Value}, RT (fl f1 N) s.heap x y → RT (fl f3 N) (s.heap.push { cls := .type "list", data := .seq (i1 ++ i2) }) x y := fun r => RT.grow (r.weak fun _ _ z => ⟨(h3 z.1).1, z.2⟩) gr
    have w2 : ∀ {x : List At} {y : Value}, RT (fl f2 N) s.heap x y → RT (fl f3 N) (s.heap.push { cls := .type "list", data := .seq (i1 ++ i2) }) x y := fun r => RT.grow (r.weak fun _ _ z => ⟨(h3 z.1).2, z.2⟩) gr
    exact h _ _ ⟨_, i1 ++ i2, rfl, fun z => fresh_notin L fresh_size z.2, ⟨_, Heap.get?_push_size _ rfl, rfl, _, rfl⟩, by rw [Array.toList_append]; exact paired_app (p1.mono fun _ _ => w1) (p2.mono fun _ _ => w2), q⟩ .push' fun a q => by (injection q with q; subst q); exact ⟨rfl, _, Heap.get?_push_size _ rfl, rfl⟩
theorem g_bin {op : LOp} {a b : LE} (ga : GoodE X A cf a) (gb : GoodE X A cf b) : GoodF X A cf (.bin op a b) := by
  intro k env ρ hs N₀ W ex v ht he EL KO hl s Q E' R h
  refine inv_trL_bin ht fun _ _ _ _ hx₀ ht => ?_
  subst hx₀
  refine and_el ht fun ht hb => ?_
  refine and_el ht fun ht ha => ?_
  cases beq_iff_eq.mp ht
  refine bind_el he fun x hx he => ?_
  refine bind_el he fun y hy he => ?_
  refine wpAny_BinOp (ga k env ρ hs N₀ W _ x ha hx EL KO hl s _ _ R fun ya s₁ ra ka => gb k env ρ hs N₀ W _ y hb hy EL KO hl s₁ _ _ (R.grow ka.grow) fun yb s₂ rb kb => ?_)
  have kk := ka.trans kb
  have L₂ := (R.grow kk.grow).lists
  exact bin_of L₂ (ra.grow kb.grow) rb (fun q => Bool.and_eq_true_iff.mp q) he (fun y s' r k' n => h y s' r (kk.trans k') fun a q => ⟨by rw [← (n a q).1]; exact kk.fresh, (n a q).2⟩)
theorem g_neg {a : LE} (ga : GoodE X A cf a) : GoodE X A cf (.neg a) := by
  intro k env ρ hs N₀ W ex v ht he EL KO hl s Q E' R h
  refine inv_trL_neg ht fun _ _ _ hx₀ ht => ?_
  subst hx₀
  refine and_el ht fun ht ha => ?_
  cases beq_iff_eq.mp ht
  refine bind_el he fun x hx he => ?_
  refine map_el he fun i hi e => ?_
  subst e
  cases LV.int?_of hi
  refine UnaryOp_ (ga k env ρ hs N₀ W _ _ ha hx EL KO hl s _ _ R fun ya s₁ ra ka => ?_)
  obtain ⟨t, rfl⟩ := ra
  exact PyProof.Rows.neg_int (h _ _ ⟨_, rfl⟩ (ka.trans .tok))
theorem reads_ints {h : Heap} : ∀ {vs : List Value} {ns : List Int}, IntsAre vs ns → ReadsAll h vs (ns.map PyData.int) []
  | _, _, .nil => .nil
  | _, _, .cons k t r => by
    have := ReadsAll.cons (Reads.int (h := h) k t) (reads_ints (h := h) r)
    simpa using this
theorem reads_tup {h : Heap} {a : Addr} {its : Array Value} {ns : List Int} (hl : IsTup h a its) (hi : IntsAre its.toList ns) : ∃ as, Reads h (.ref a) (.tuple (ns.map PyData.int)) as := by
  obtain ⟨o, ho, hc, n, hd⟩ := hl
  exact ⟨_, Reads.tuple ho hc hd (reads_ints hi)⟩
theorem ints_of_ats {N : Addr → Prop} {h : Heap} : ∀ {as : List At} {vs : List Value} {ns : List Int}, Paired (RA N h) as vs → atsInts as = some ns → IntsAre vs ns
  | [], _, _, .nil, e => by (injection e with e; subst e); exact .nil
  | a :: as, _, ns, .cons r p, e => by
    refine bind_el e fun b hb e => ?_
    refine map_el e fun l hl e => ?_
    subst e
    cases At.int?_of hb
    obtain ⟨t, rfl⟩ := r
    exact .cons _ t (ints_of_ats p hl)
theorem depth_ints : ∀ ns : List Int, PyData.depthAll (ns.map PyData.int) ≤ 1
  | [] => by simp [PyData.depthAll]
  | n :: r => by
    have := depth_ints r
    simp only [List.map_cons, PyData.depthAll, PyData.depth]
    lia
theorem shaped_tup (ns : List Int) : PySem.SeqAt.shaped (.tuple (ns.map PyData.int)) = true := by
  have h1 := depth_ints ns
  have h2 : PyData.depth (.tuple (ns.map PyData.int)) ≤ 64 := by simp only [PyData.depth]; lia
  show (PyData.canLay0 (.tuple (ns.map PyData.int)) && decide (PyData.depth (.tuple (ns.map PyData.int)) ≤ 64)) = true
  rw [Bool.and_eq_true]
  exact ⟨by simp only [PyData.canLay0]; exact canLayAll0_ints ns, decide_eq_true h2⟩
theorem beq_dec {xs ys : List Int} : (xs == ys) = decide (xs = ys) := by by_cases h : xs = ys <;> simp [h]
theorem cmp_of {s : Shared} {N : Addr → Prop} {op : COp} {x y : LV} {a b : Value} {r : Bool} (hu : A.units + 64 < cLine) (ra : RV N s.heap x a) (rb : RV N s.heap y b) (hc : cmpV op x y = some r) {Q : Value → Shared → Prop} {E' : Value → Shared → Prop} (h : Q (.bool r) s) :
    wpAny (model X.x.prog X.x.w) A (compareOp op.op a b) Q E' s := by
  rcases alt_of hc with ⟨i, hi, hc⟩ | hc
  · obtain ⟨j, hj, e⟩ := map_of hc
    subst e
    cases LV.int?_of hi
    cases LV.int?_of hj
    obtain ⟨t, rfl⟩ := ra
    obtain ⟨u, rfl⟩ := rb
    exact COp.compare (x := X.x) h
  rcases alt_of hc with ⟨xs, hxs, hc⟩ | hc
  · obtain ⟨ys, hys, hd⟩ := bind_of hc
    rw [beq_dec] at hd
    cases LV.ints?_of hxs
    cases LV.ints?_of hys
    obtain ⟨a1, i1, rfl, _, l1, n1, _⟩ := ra
    obtain ⟨a2, i2, rfl, _, l2, n2, _⟩ := rb
    have l1' : s.heap.IsList a1 i1.toList.toArray := by rw [Array.toArray_toList]; exact l1
    have l2' : s.heap.IsList a2 i2.toList.toArray := by rw [Array.toArray_toList]; exact l2
    cases op <;> cases hd
    · exact eq_intsK l1' n1 l2' n2 hu h
    · exact ne_intsK l1' n1 l2' n2 hu h
  · obtain ⟨xs, hxs, hc⟩ := bind_of hc
    refine bind_el hc fun ys hys hc => ?_
    refine bind_el hc fun p hp hc => ?_
    refine bind_el hc fun q hq hd => ?_
    rw [beq_dec] at hd
    cases LV.tup?_of hxs
    cases LV.tup?_of hys
    obtain ⟨a1, i1, rfl, l1, n1⟩ := ra
    obtain ⟨a2, i2, rfl, l2, n2⟩ := rb
    obtain ⟨as, r1⟩ := reads_tup l1 (ints_of_ats n1 hp)
    obtain ⟨bs, r2⟩ := reads_tup l2 (ints_of_ats n2 hq)
    cases op <;> cases hd
    · exact eq_dataH_same r1 r2 (shaped_tup p) (shaped_tup q) hu (by simp only [PySem.SeqAt.noMix]; exact noMix_ints p q) (by simp only [PySem.Spec.same]; rw [same_ints]; exact h)
    · exact ne_dataH_same r1 r2 (shaped_tup p) (shaped_tup q) hu (by simp only [PySem.SeqAt.noMix]; exact noMix_ints p q) (by simp only [PySem.Spec.same]; rw [same_ints]; exact h)
theorem RV.any {N : Addr → Prop} {h : Heap} {v : LV} {y : Value} (r : RV N h v y) : RV (fun _ => False) h v y := r.weak fun _ _ q => q.elim
theorem g_cmp {op : COp} {a b : LE} (hu : A.units + 64 < cLine) (ga : GoodE X A cf a) (gb : GoodE X A cf b) : GoodE X A cf (.cmp op a b) ∧ GoodT X A cf (.cmp op a b) := by
  have key : ∀ (k : LC) (env : Env) (ρ : LLoc) (hs : Addr → Option Obj) (N₀ W : Addr → Prop) (ex : PySem.Expr) (v : LV), trL X.F k (.cmp op a b) ex = true → evL cf (.cmp op a b) ρ = some v → EnvL env k.vars → KOk k env → ρ.length = k.vars.length →
      ∃ el er p c, ex = .Compare el [op.op] [er] p ∧ plainL er = true ∧ v = .bool c ∧ ∀ (s : Shared) (Q : Value → Shared → Prop) (E' : Value → Shared → Prop), Rd X hs N₀ env k.vars ρ W s.heap → (∀ s', Kg s s' → Q (.bool c) s') →
        wpAny (model X.x.prog X.x.w) A (eval el env) (fun y s₁ => wpAny (model X.x.prog X.x.w) A (eval er env) (fun y₂ s₂ => wpAny (model X.x.prog X.x.w) A (compareOp op.op y y₂) Q E' s₂) E' s₁) E' s := by
    intro k env ρ hs N₀ W ex v ht he EL KO hl
    refine inv_trL_cmp ht fun _ _ _ _ hx₀ ht => ?_
    subst hx₀
    refine and_el ht fun ht hb => ?_
    refine and_el ht fun ht ha => ?_
    refine and_el ht fun ht hp => ?_
    cases beq_iff_eq.mp ht
    refine bind_el he fun x hx he => ?_
    refine bind_el he fun y hy he => ?_
    refine map_el he fun r hr e => ?_
    subst e
    exact ⟨_, _, _, r, rfl, hp, rfl, fun s Q E' R h => ga k env ρ hs N₀ W _ x ha hx EL KO hl s _ _ R fun ya s₁ ra ka => gb k env ρ hs N₀ W _ y hb hy EL KO hl s₁ _ _ (R.grow ka.grow) fun yb s₂ rb kb => cmp_of hu (ra.grow kb.grow).any rb.any hr (h s₂ (ka.trans kb))⟩
  constructor
  · intro k env ρ hs N₀ W ex v ht he EL KO hl s Q E' R h
    obtain ⟨el, er, p, c, rfl, hp, rfl, w⟩ := key k env ρ hs N₀ W ex v ht he EL KO hl
    exact wpAny_Compare1 (w s _ _ R fun s' k' => h _ s' rfl k') (plainL_marks hp op)
  · intro k env ρ hs N₀ W ex v c ht he hc EL KO hl s Q E' R h
    obtain ⟨el, er, p, c', rfl, hp, rfl, w⟩ := key k env ρ hs N₀ W ex v ht he EL KO hl
    (injection hc with hc; subst hc)
    exact wpAny_isTrue_Compare1 (w s _ _ R fun s' k' => wpAny_truthy_bool (h s' k')) (plainL_marks hp op)
end
end Mine

end
section
open PySem PySem.W PyProof.Rows
set_option maxRecDepth 100000
set_option maxHeartbeats 1000000
set_option linter.unusedSimpArgs false
set_option linter.unusedVariables false
set_option linter.unusedSectionVars false
namespace Mine
section
variable {X : LX} {A : Around} {cf : Nat → List LV → Option LV}
theorem and_raw {M : Model} {env : Env} {l r : PySem.Expr} {pos : Pos} {Q : Value → Shared → Prop} {E' : Value → Shared → Prop} {s : Shared}
    (h : wpAny M A (eval l env) (fun v s₁ => ∃ b, v = .bool b ∧ if b then wpAny M A (eval r env) Q E' s₁ else Q (.bool false) s₁) E' s) : wpAny M A (eval (.BoolOp .And [l, r] pos) env) Q E' s := by
  show wpAny M A (do let v ← eval l env; standAt pos; let t ← holding [v] (truthy v); match BoolOp.And, t with | .And, false | .Or, true => pure v | _, _ => eval r env) Q E' s
  refine wpAny_bind (wpAny_mono h (fun v s₁ h₁ => wpAny_bind (wpAny_standAt ?_)) fun _ _ x => x)
  obtain ⟨b, rfl, h₁⟩ := h₁
  refine wpAny_bind (wpAny_holding (wpAny_truthy_bool ?_))
  cases b
  · exact wpAny_pure h₁
  · exact h₁
theorem all_And {M : Model} {env : Env} {l r : PySem.Expr} {Q : Bool → Shared → Prop} {E' : Value → Shared → Prop} {s : Shared}
    (h : wpAny M A (isTrue l env (eval l env)) (fun b s₁ => if b then wpAny M A (isTrue r env (eval r env)) Q E' s₁ else Q false s₁) E' s) : wpAny M A (allTrue .And [l, r] env) Q E' s := by
  refine wpAny_allTrue_And_cons (wpAny_mono h (fun b s₁ h₁ => ?_) fun _ _ x => x)
  cases b
  · exact h₁
  · refine wpAny_allTrue_And_cons (wpAny_mono h₁ (fun b s₂ h₂ => ?_) fun _ _ x => x)
    cases b
    · exact h₂
    · exact wpAny_allTrue_And_nil h₂
theorem fl_true {N : Addr → Prop} {h : Heap} {v : LV} {y : Value} {b b' : Bool} (r : RV (fl b N) h v y) (hb : b' = true → b = true) : RV (fl b' N) h v y := r.weak fun _ _ q => ⟨hb q.1, q.2⟩
theorem g_and {a b : LE} (ga : GoodE X A cf a) (gb : GoodE X A cf b) (ta : GoodT X A cf a) (tb : GoodT X A cf b) : GoodE X A cf (.and a b) ∧ GoodT X A cf (.and a b) := by
  constructor
  · intro k env ρ hs N₀ W ex v ht he EL KO hl s Q E' R h
    refine inv_trL_and ht fun _ _ _ _ hx₀ ht => ?_
    subst hx₀
    refine and_el ht fun ht hb => ?_
    refine and_el ht fun ht ha => ?_
    refine and_el ht fun ht hs1 => ?_
    cases beq_iff_eq.mp ht
    refine bind_el he fun x hx he => ?_
    refine bind_el he fun q hq he => ?_
    cases LV.bool?_of hq
    refine and_raw (ga k env ρ hs N₀ W _ _ ha hx EL KO hl s _ _ R fun ya s₁ ra ka => ⟨q, ra, ?_⟩)
    cases q
    · (injection he with he; subst he); exact h _ s₁ rfl ka
    · exact gb k env ρ hs N₀ W _ _ hb he EL KO hl s₁ _ _ (R.grow ka.grow) fun yb s₂ rb kb => h _ s₂ (fl_true rb fun _ => hs1) (ka.trans kb)
  · intro k env ρ hs N₀ W ex v c ht he hc EL KO hl s Q E' R h
    refine inv_trL_and ht fun _ _ _ _ hx₀ ht => ?_
    subst hx₀
    refine and_el ht fun ht hb => ?_
    refine and_el ht fun ht ha => ?_
    refine and_el ht fun ht hs1 => ?_
    cases beq_iff_eq.mp ht
    refine bind_el he fun x hx he => ?_
    refine bind_el he fun q hq he => ?_
    cases LV.bool?_of hq
    refine wpAny_isTrue_BoolOp (all_And (ta k env ρ hs N₀ W _ _ q ha hx rfl EL KO hl s _ _ R fun s₁ ka => ?_))
    cases q
    · (injection he with he; subst he); (injection hc with hc; subst hc); exact h s₁ ka
    · exact tb k env ρ hs N₀ W _ _ c hb he hc EL KO hl s₁ _ _ (R.grow ka.grow) fun s₂ kb => h s₂ (ka.trans kb)
theorem g_not {a : LE} (ga : GoodE X A cf a) (ta : GoodT X A cf a) : GoodE X A cf (.not a) ∧ GoodT X A cf (.not a) := by
  constructor
  · intro k env ρ hs N₀ W ex v ht he EL KO hl s Q E' R h
    refine inv_trL_not ht fun _ _ _ hx₀ ht => ?_
    subst hx₀
    refine and_el ht fun ht ha => ?_
    cases beq_iff_eq.mp ht
    refine bind_el he fun x hx he => ?_
    refine map_el he fun b hb e => ?_
    subst e
    exact UnaryOp_ (ga k env ρ hs N₀ W _ _ ha hx EL KO hl s _ _ R fun ya s₁ ra ka => not_of (truthyL_of ra hb fun s₂ kb => h _ s₂ rfl (ka.trans kb)))
  · intro k env ρ hs N₀ W ex v c ht he hc EL KO hl s Q E' R h
    refine inv_trL_not ht fun _ _ _ hx₀ ht => ?_
    subst hx₀
    refine and_el ht fun ht ha => ?_
    cases beq_iff_eq.mp ht
    refine bind_el he fun x hx he => ?_
    refine map_el he fun b hb e => ?_
    subst e
    (injection hc with hc; subst hc)
    rw [arm_isTrue_UnaryOp]
    exact wpAny_bind (ta k env ρ hs N₀ W _ _ b ha hx hb EL KO hl s _ _ R fun s₁ ka => wpAny_pure (h s₁ ka))
theorem g_ife {t a b : LE} (tt : GoodT X A cf t) (ga : GoodE X A cf a) (gb : GoodE X A cf b) : GoodE X A cf (.ife t a b) := by
  intro k env ρ hs N₀ W ex v ht he EL KO hl s Q E' R h
  refine inv_trL_ife ht fun _ _ _ _ hx₀ ht => ?_
  subst hx₀
  refine and_el ht fun ht hb => ?_
  refine and_el ht fun hx ha => ?_
  refine bind_el he fun x ex he => ?_
  refine bind_el he fun q hv he => ?_
  refine wpAny_IfExp (tt k env ρ hs N₀ W _ _ q hx ex hv EL KO hl s _ _ R fun s₁ ka => ?_)
  cases q
  · exact gb k env ρ hs N₀ W _ _ hb he EL KO hl s₁ _ _ (R.grow ka.grow) fun yb s₂ rb kb => h _ s₂ (fl_true rb fun q => (Bool.and_eq_true_iff.mp q).2) (ka.trans kb)
  · exact ga k env ρ hs N₀ W _ _ ha he EL KO hl s₁ _ _ (R.grow ka.grow) fun yb s₂ rb kb => h _ s₂ (fl_true rb fun q => (Bool.and_eq_true_iff.mp q).1) (ka.trans kb)
theorem pick_of {α : Type} {l : List α} {k : Int} {x : α} (h : pick l k = some x) : (0 ≤ k ∧ l[k.toNat]? = some x ∧ k.toNat < l.length) ∨ (k < 0 ∧ -(l.length : Int) ≤ k ∧ l[(k + l.length).toNat]? = some x) := by
  unfold pick at h
  split at h
  · rename_i q; exact .inl ⟨q, h, (List.getElem?_eq_some_iff.mp h).1⟩
  · rename_i q
    split at h
    · rename_i q'; exact .inr ⟨by lia, by lia, h⟩
    · injection h
theorem item_any {s : Shared} {a : Addr} {items : Array Value} {k : Int} {u : Tok} {value e : PySem.Expr} {x : Value} (hl : s.heap.IsList a items) (hz : items.size ≤ lim) (hk : pick items.toList k = some x) (he : plainL e = true) {Q : Value → Shared → Prop} {E' : Value → Shared → Prop}
    (hq : Q x s) : wpAny (model X.x.prog X.x.w) A (subscriptTail value e (.ref a) (.int k u)) Q E' s := by
  have h63 := lim_63 hz
  refine tail_any hl.typeIs slot_list_getitem.lookup ?_ (plainL_sub he _ _)
  rcases pick_of hk with ⟨h0, hx, hlt⟩ | ⟨h0, h1, hx⟩
  · rw [Array.length_toList] at hlt
    exact wpAny_getItem_list hl h0 (by lia) (by rw [← Array.getElem?_toList]; exact hx) hq
  · rw [Array.length_toList] at h1 hx
    exact wpAny_getItem_list_neg hl h0 h1 (by lia) (by rw [← Array.getElem?_toList]; exact hx) hq
theorem pick_map {α β : Type} {F : α → β → Prop} {l₁ : List α} {l₂ : List β} (p : Paired F l₁ l₂) {k : Int} {x : α} (h : pick l₁ k = some x) : ∃ y, pick l₂ k = some y ∧ F x y := by
  have gt : ∀ {l₁ : List α} {l₂ : List β}, Paired F l₁ l₂ → ∀ (i : Nat) (x : α), l₁[i]? = some x → ∃ y, l₂[i]? = some y ∧ F x y := by
    intro l₁ l₂ p
    induction p with
    | nil => intro i x h; simp at h
    | cons hab t ih =>
      intro i x h
      cases i with
      | zero => simp at h; subst h; exact ⟨_, rfl, hab⟩
      | succ i => simpa using ih i x (by simpa using h)
  have hlen := p.length
  rcases pick_of h with ⟨h0, hx, hlt⟩ | ⟨h0, h1, hx⟩
  · obtain ⟨y, hy, r⟩ := gt p _ _ hx
    exact ⟨y, by unfold pick; rw [if_pos h0]; exact hy, r⟩
  · obtain ⟨y, hy, r⟩ := gt p _ _ hx
    refine ⟨y, ?_, r⟩
    unfold pick
    rw [if_neg (by lia), if_pos (by lia), ← hlen]; exact hy
theorem ints_paired : ∀ {vs : List Value} {ns : List Int}, IntsAre vs ns → Paired (fun n v => ∃ t, v = Value.int n t) ns vs
  | _, _, .nil => .nil
  | _, _, .cons k t r => .cons ⟨t, rfl⟩ (ints_paired r)
theorem idx_of {s : Shared} {N : Addr → Prop} {x y r : LV} {a b : Value} {value e : PySem.Expr} (ra : RV N s.heap x a) (rb : RV (fun _ => False) s.heap y b) (hr : idxV x y = some r) (he : plainL e = true) {Q : Value → Shared → Prop} {E' : Value → Shared → Prop}
    (h : ∀ z, RV N s.heap r z → Q z s) : wpAny (model X.x.prog X.x.w) A (subscriptTail value e a b) Q E' s := by
  refine bind_el hr fun k hk hr => ?_
  have hk := LV.int?_of hk
  obtain ⟨t, rfl⟩ : ∃ t, b = .int k t := by rw [hk] at rb; exact rb
  have key : ∀ {α : Type} {F : α → Value → Prop} {xs : List α} {c : Addr} {its : Array Value}, s.heap.IsList c its → Paired F xs its.toList → xs.length ≤ lim → ∀ {n : α}, pick xs k = some n → (∀ z, F n z → Q z s) → wpAny (model X.x.prog X.x.w) A (subscriptTail value e (.ref c) (.int k t)) Q E' s := by
    intro α F xs c its l p z n hn h'
    obtain ⟨w, hw, q⟩ := pick_map p hn
    exact item_any l (by rw [← Array.length_toList, ← p.length]; exact z) hw he (h' _ q)
  rcases alt_of hr with ⟨xs, hx, hr⟩ | hr
  · obtain ⟨n, hn, e'⟩ := map_of hr
    subst e'
    cases LV.ints?_of hx
    obtain ⟨c, its, rfl, _, l, i, z⟩ := ra
    exact key l (ints_paired i) z hn h
  rcases alt_of hr with ⟨xs, hx, hr⟩ | hr
  · obtain ⟨n, hn, e'⟩ := map_of hr
    subst e'
    cases LV.lists?_of hx
    obtain ⟨c, its, rfl, _, l, i, z⟩ := ra
    exact key l i z hn h
  · obtain ⟨xs, hx, hr⟩ := bind_of hr
    obtain ⟨n, hn, e'⟩ := map_of hr
    subst e'
    cases LV.rows?_of hx
    obtain ⟨c, its, rfl, _, l, i, z⟩ := ra
    exact key l i z hn h
theorem own_idx {w : Nat} {ρ : LLoc} {x y r : LV} (hx : evL cf (.own w) ρ = some x) (hr : idxV x y = some r) : ∃ n, r = .int n := by
  refine bind_el hx fun u _ hx => ?_
  refine map_el hx fun xs _ e => ?_
  subst e
  refine bind_el hr fun k _ hr => ?_
  refine map_el hr fun n _ e => ?_
  exact ⟨n, e.symm⟩
theorem g_idx {a i : LE} (ga : GoodE X A cf a) (gi : GoodE X A cf i) : GoodE X A cf (.idx a i) := by
  intro k env ρ hs N₀ W ex v ht he EL KO hl s Q E' R h
  refine inv_trL_idx ht fun _ _ _ hx₀ ht => ?_
  subst hx₀
  refine and_el ht fun ht hi => ?_
  refine and_el ht fun hp ha => ?_
  refine bind_el he fun x hx hv => ?_
  refine bind_el hv fun y hy hv => ?_
  clear he
  refine Subscript_ (ga k env ρ hs N₀ W _ x ha hx EL KO hl s _ _ R fun ya s₁ ra ka => gi k env ρ hs N₀ W _ y hi hy EL KO hl s₁ _ _ (R.grow ka.grow) fun yb s₂ rb kb => ?_)
  refine idx_of (ra.grow kb.grow) rb.any hv hp fun z rz => h z s₂ ?_ (ka.trans kb)
  cases hst : stb a with
  | true => rw [hst] at rz; exact fl_true rz fun _ => rfl
  | false =>
    cases a with
    | own w =>
      obtain ⟨n, rfl⟩ := own_idx hx hv
      exact rz
    | _ => exact fl_true rz fun q => q
end
end Mine

end
section
open PySem PySem.W PyProof.Rows
set_option maxRecDepth 100000
set_option maxHeartbeats 1000000
set_option linter.unusedSimpArgs false
set_option linter.unusedVariables false
set_option linter.unusedSectionVars false
namespace Mine
section
variable {X : LX} {A : Around} {cf : Nat → List LV → Option LV}
theorem g_cmp2 {o p : COp} {a b d : LE} (ga : GoodE X A cf a) (gb : GoodE X A cf b) (gd : GoodE X A cf d) : GoodE X A cf (.cmp2 o p a b d) ∧ GoodT X A cf (.cmp2 o p a b d) := by
  constructor
  · intro k env ρ hs N₀ W ex v ht he EL KO hl s Q E' R h
    refine inv_trL_cmp2 ht fun l o1 p1 r r2 y1 hx₀ ht => ?_
    subst hx₀
    refine and_el ht fun ht hd => ?_
    refine and_el ht fun ht hb => ?_
    refine and_el ht fun ht ha => ?_
    refine and_el ht fun ht hp2 => ?_
    refine and_el ht fun ht hp1 => ?_
    refine and_el ht fun h1 h2 => ?_
    cases beq_iff_eq.mp h1
    cases beq_iff_eq.mp h2
    refine bind_el he fun x hx he => ?_
    refine bind_el he fun i hi he => ?_
    refine bind_el he fun y hy he => ?_
    refine bind_el he fun j hj hk => ?_
    clear he
    cases LV.int?_of hi
    cases LV.int?_of hj
    refine Compare_chain (ga k env ρ hs N₀ W _ _ ha hx EL KO hl s _ _ R fun ya s₁ ra ka => ?_) (by simpa [lastMarks] using plainL_marks hp2 p)
    obtain ⟨t, rfl⟩ := ra
    refine chain_link (gb k env ρ hs N₀ W _ _ hb hy EL KO hl s₁ _ _ (R.grow ka.grow) fun yb s₂ rb kb => ?_)
    obtain ⟨u, rfl⟩ := rb
    refine COp.compare (x := X.x) (wpAny_truthy_bool ?_)
    have kab := ka.trans kb
    cases hq : o.ev i j with
    | false => rw [hq] at hk; (injection hk with hk; subst hk); exact h _ s₂ rfl kab
    | true =>
      rw [hq] at hk
      refine bind_el hk fun z hz hk => ?_
      refine map_el hk fun m hm e => ?_
      subst e
      cases LV.int?_of hm
      refine chain_last (gd k env ρ hs N₀ W _ _ hd hz EL KO hl s₂ _ _ (R.grow kab.grow) fun yc s₃ rc kc => ?_)
      obtain ⟨w, rfl⟩ := rc
      exact COp.compare (x := X.x) (h _ s₃ rfl (kab.trans kc))
  · intro k env ρ hs N₀ W ex v c ht he hc EL KO hl s Q E' R h
    refine inv_trL_cmp2 ht fun l o1 p1 r r2 y1 hx₀ ht => ?_
    subst hx₀
    refine and_el ht fun ht hd => ?_
    refine and_el ht fun ht hb => ?_
    refine and_el ht fun ht ha => ?_
    refine and_el ht fun ht hp2 => ?_
    refine and_el ht fun ht hp1 => ?_
    refine and_el ht fun h1 h2 => ?_
    cases beq_iff_eq.mp h1
    cases beq_iff_eq.mp h2
    refine bind_el he fun x hx he => ?_
    refine bind_el he fun i hi he => ?_
    refine bind_el he fun y hy he => ?_
    refine bind_el he fun j hj hk => ?_
    clear he
    cases LV.int?_of hi
    cases LV.int?_of hj
    refine isTrue_chain (ga k env ρ hs N₀ W _ _ ha hx EL KO hl s _ _ R fun ya s₁ ra ka => ?_) (by simpa [lastMarks] using plainL_marks hp2 p)
    obtain ⟨t, rfl⟩ := ra
    refine test_link (gb k env ρ hs N₀ W _ _ hb hy EL KO hl s₁ _ _ (R.grow ka.grow) fun yb s₂ rb kb => ?_)
    obtain ⟨u, rfl⟩ := rb
    refine COp.compare (x := X.x) (wpAny_truthy_bool ?_)
    have kab := ka.trans kb
    cases hq : o.ev i j with
    | false => rw [hq] at hk; (injection hk with hk; subst hk); (injection hc with hc; subst hc); exact h s₂ kab
    | true =>
      rw [hq] at hk
      refine bind_el hk fun z hz hk => ?_
      refine map_el hk fun m hm e => ?_
      subst e
      (injection hc with hc; subst hc)
      cases LV.int?_of hm
      refine test_last (gd k env ρ hs N₀ W _ _ hd hz EL KO hl s₂ _ _ (R.grow kab.grow) fun yc s₃ rc kc => ?_)
      obtain ⟨w, rfl⟩ := rc
      exact COp.compare (x := X.x) (wpAny_truthy_bool (h s₃ (kab.trans kc)))
theorem or3_raw {M : Model} {env : Env} {l r r2 : PySem.Expr} {pos : Pos} {Q : Value → Shared → Prop} {E' : Value → Shared → Prop} {s : Shared}
    (h : wpAny M A (eval l env) (fun v s₁ => ∃ b, v = .bool b ∧ if b then Q (.bool true) s₁ else wpAny M A (eval r env) (fun v s₂ => ∃ b, v = .bool b ∧ if b then Q (.bool true) s₂ else wpAny M A (eval r2 env) Q E' s₂) E' s₁) E' s) : wpAny M A (eval (.BoolOp .Or [l, r, r2] pos) env) Q E' s := by
  show wpAny M A (do let v ← eval l env; standAt pos; let t ← holding [v] (truthy v); match BoolOp.Or, t with | .And, false | .Or, true => pure v | _, _ => (do let v ← eval r env; standAt pos; let t ← holding [v] (truthy v); match BoolOp.Or, t with | .And, false | .Or, true => pure v | _, _ => eval r2 env)) Q E' s
  refine wpAny_bind (wpAny_mono h (fun v s₁ h₁ => wpAny_bind (wpAny_standAt ?_)) fun _ _ x => x)
  obtain ⟨b, rfl, h₁⟩ := h₁
  refine wpAny_bind (wpAny_holding (wpAny_truthy_bool ?_))
  cases b
  · refine wpAny_bind (wpAny_mono h₁ (fun v s₂ h₂ => wpAny_bind (wpAny_standAt ?_)) fun _ _ x => x)
    obtain ⟨b, rfl, h₂⟩ := h₂
    refine wpAny_bind (wpAny_holding (wpAny_truthy_bool ?_))
    cases b
    · exact h₂
    · exact wpAny_pure h₂
  · exact wpAny_pure h₁
theorem all_Or3 {M : Model} {env : Env} {l r r2 : PySem.Expr} {Q : Bool → Shared → Prop} {E' : Value → Shared → Prop} {s : Shared}
    (h : wpAny M A (isTrue l env (eval l env)) (fun b s₁ => if b then Q true s₁ else wpAny M A (isTrue r env (eval r env)) (fun b s₂ => if b then Q true s₂ else wpAny M A (isTrue r2 env (eval r2 env)) Q E' s₂) E' s₁) E' s) : wpAny M A (allTrue .Or [l, r, r2] env) Q E' s := by
  refine wpAny_allTrue_Or_cons (wpAny_mono h (fun b s₁ h₁ => ?_) fun _ _ x => x)
  cases b
  · refine wpAny_allTrue_Or_cons (wpAny_mono h₁ (fun b s₂ h₂ => ?_) fun _ _ x => x)
    cases b
    · refine wpAny_allTrue_Or_cons (wpAny_mono h₂ (fun b s₃ h₃ => ?_) fun _ _ x => x)
      cases b
      · exact wpAny_allTrue_Or_nil h₃
      · exact h₃
    · exact h₂
  · exact h₁
theorem g_or3 {a b d : LE} (ga : GoodE X A cf a) (gb : GoodE X A cf b) (gd : GoodE X A cf d) (ta : GoodT X A cf a) (tb : GoodT X A cf b) (td : GoodT X A cf d) : GoodE X A cf (.or3 a b d) ∧ GoodT X A cf (.or3 a b d) := by
  constructor
  · intro k env ρ hs N₀ W ex v ht he EL KO hl s Q E' R h
    refine inv_trL_or3 ht fun _ _ _ _ _ hx₀ ht => ?_
    subst hx₀
    refine and_el ht fun ht hd => ?_
    refine and_el ht fun ht hb => ?_
    refine and_el ht fun ht ha => ?_
    refine and_el ht fun ht hs2 => ?_
    refine and_el ht fun ht hs1 => ?_
    cases beq_iff_eq.mp ht
    refine bind_el he fun x hx he => ?_
    refine bind_el he fun q hq hk => ?_
    clear he
    cases LV.bool?_of hq
    refine or3_raw (ga k env ρ hs N₀ W _ _ ha hx EL KO hl s _ _ R fun ya s₁ ra ka => ⟨q, ra, ?_⟩)
    cases q
    · obtain ⟨y, hy, hk⟩ := bind_of hk
      refine bind_el hk fun r hr hm => ?_
      clear hk
      cases LV.bool?_of hr
      refine gb k env ρ hs N₀ W _ _ hb hy EL KO hl s₁ _ _ (R.grow ka.grow) fun yb s₂ rb kb => ⟨r, rb, ?_⟩
      have kab := ka.trans kb
      cases r
      · exact gd k env ρ hs N₀ W _ _ hd hm EL KO hl s₂ _ _ (R.grow kab.grow) fun yc s₃ rc kc => h _ s₃ (fl_true rc fun _ => hs2) (kab.trans kc)
      · (injection hm with hm; subst hm); exact h _ s₂ rfl kab
    · (injection hk with hk; subst hk); exact h _ s₁ rfl ka
  · intro k env ρ hs N₀ W ex v c ht he hc EL KO hl s Q E' R h
    refine inv_trL_or3 ht fun _ _ _ _ _ hx₀ ht => ?_
    subst hx₀
    refine and_el ht fun ht hd => ?_
    refine and_el ht fun ht hb => ?_
    refine and_el ht fun ht ha => ?_
    refine and_el ht fun ht hs2 => ?_
    refine and_el ht fun ht hs1 => ?_
    cases beq_iff_eq.mp ht
    refine bind_el he fun x hx he => ?_
    refine bind_el he fun q hq hk => ?_
    clear he
    cases LV.bool?_of hq
    refine wpAny_isTrue_BoolOp (all_Or3 (ta k env ρ hs N₀ W _ _ q ha hx rfl EL KO hl s _ _ R fun s₁ ka => ?_))
    cases q
    · obtain ⟨y, hy, hk⟩ := bind_of hk
      refine bind_el hk fun r hr hm => ?_
      clear hk
      cases LV.bool?_of hr
      refine tb k env ρ hs N₀ W _ _ r hb hy rfl EL KO hl s₁ _ _ (R.grow ka.grow) fun s₂ kb => ?_
      have kab := ka.trans kb
      cases r
      · exact td k env ρ hs N₀ W _ _ c hd hm hc EL KO hl s₂ _ _ (R.grow kab.grow) fun s₃ kc => h s₃ (kab.trans kc)
      · (injection hm with hm; subst hm); (injection hc with hc; subst hc); exact h s₂ kab
    · (injection hk with hk; subst hk); (injection hc with hc; subst hc); exact h s₁ ka
end
end Mine

end
section
open PySem PySem.W PyProof.Rows
set_option maxRecDepth 100000
set_option maxHeartbeats 1000000
set_option linter.unusedSimpArgs false
set_option linter.unusedVariables false
set_option linter.unusedSectionVars false
namespace Mine
section
variable {X : LX} {A : Around} {cf : Nat → List LV → Option LV}
theorem part_of {s : Shared} {N : Addr → Prop} {v : LV} {y : Value} {p : Option Int} (r : RV N s.heap v y) (h : part v = some p) : IsPart y p := by
  cases v with
  | «at» a =>
    cases a <;> cases h
    · obtain ⟨t, rfl⟩ := r; exact .int _ _
    · obtain rfl := r; exact .none
  | _ => injection h
theorem ints_take : ∀ {vs : List Value} {ns : List Int} (_ : IntsAre vs ns) (n : Nat), IntsAre (vs.take n) (ns.take n)
  | _, _, _, 0 => .nil
  | _, _, .nil, _ + 1 => .nil
  | _, _, .cons k t r, n + 1 => .cons k t (ints_take r n)
theorem ints_drop : ∀ {vs : List Value} {ns : List Int} (_ : IntsAre vs ns) (n : Nat), IntsAre (vs.drop n) (ns.drop n)
  | _, _, h, 0 => h
  | _, _, .nil, _ + 1 => .nil
  | _, _, .cons k t r, n + 1 => ints_drop r n
theorem ints_cut {its : Array Value} {xs : List Int} (h : IntsAre its.toList xs) (lo hi : Option Int) : IntsAre (slicePick its lo hi none).toList (cutI xs lo hi) := by
  rw [slicePick_plain]
  unfold cutI
  rw [ints_len h]
  exact ints_take (ints_drop h _) _
theorem cut_len (xs : List Int) (lo hi : Option Int) : (cutI xs lo hi).length ≤ xs.length := by
  unfold cutI
  rw [List.length_take, List.length_drop]
  lia
theorem opt_good {e : LE} (g : GoodE X A cf e) (k : LC) (env : Env) (ρ : LLoc) (hs : Addr → Option Obj) (N₀ W : Addr → Prop) (o : Option PySem.Expr) (v : LV) (ht : (match o with | Option.none => isNoneE e | some x => trL X.F k e x) = true) (he : evL cf e ρ = some v) (EL : EnvL env k.vars) (KO : KOk k env) (hl : ρ.length = k.vars.length)
    (s : Shared) (Q : Value → Shared → Prop) (E' : Value → Shared → Prop) (R : Rd X hs N₀ env k.vars ρ W s.heap) (h : ∀ y s', RV (fun _ => False) s'.heap v y → Kg s s' → Q y s') : wpAny (model X.x.prog X.x.w) A (evalPart o env) Q E' s := by
  cases o with
  | none =>
    have : e = .none := by cases e <;> first | rfl | injection ht
    subst this
    (injection he with he; subst he)
    rw [evalPart_none]
    exact wpAny_pure (h _ s rfl .refl)
  | some x =>
    rw [evalPart_some]
    exact g k env ρ hs N₀ W x v ht he EL KO hl s Q E' R fun y s' r k' => h y s' r.any k'
theorem g_slc {a lo hi : LE} (ga : GoodE X A cf a) (gl : GoodE X A cf lo) (gh : GoodE X A cf hi) : GoodF X A cf (.slc a lo hi) := by
  intro k env ρ hs N₀ W ex v ht he EL KO hl s Q E' R h
  refine inv_trL_slc ht fun _ _ _ _ _ _ hx₀ ht => ?_
  subst hx₀
  refine and_el ht fun ht h2 => ?_
  refine and_el ht fun ht h1 => ?_
  refine and_el ht fun ht ha => ?_
  cases Option.isNone_iff_eq_none.mp ht
  refine bind_el he fun x hx he => ?_
  refine bind_el he fun l hlo he => ?_
  refine bind_el he fun u hup he => ?_
  refine bind_el he fun xs hxs he => ?_
  refine bind_el he fun p1 hp1 he => ?_
  refine map_el he fun p2 hp2 e => ?_
  subst e
  cases LV.ints?_of hxs
  refine Subscript_ (ga k env ρ hs N₀ W _ _ ha hx EL KO hl s _ _ R fun ya s₁ ra ka => wpAny_Slice (opt_good gl k env ρ hs N₀ W _ l h1 hlo EL KO hl s₁ _ _ (R.grow ka.grow) fun yl s₂ rl kl =>
    opt_good gh k env ρ hs N₀ W _ u h2 hup EL KO hl s₂ _ _ (R.grow (ka.trans kl).grow) fun yu s₃ ru ku => ?_))
  rw [evalPart_none]
  refine wpAny_pure ?_
  obtain ⟨b, its, rfl, _, lb, ib, zb⟩ := (ra.grow kl.grow).grow ku.grow
  have kk := ((ka.trans kl).trans ku).trans (Kg.push' (s := s₃) (o := { cls := .type "slice", data := .fields #[yl, yu, .none] }))
  have lp := lb.push { cls := .type "slice", data := .fields #[yl, yu, .none] }
  refine tail_any lp.typeIs slot_list_getitem.lookup (wpAny_getItem_list_slice lp (Heap.IsSliceOf.new ..) (part_of (rl.grow ku.grow) hp1) (part_of ru hp2) .none (by simp) ?_ (by rw [ints_len ib]; exact Nat.le_trans zb lim_size)) (ops := [.ref s₃.heap.objs.size, .ref b]) rfl
  have e : slicePick its p1 p2 none = (slicePick its p1 p2 none).toList.toArray := by rw [Array.toArray_toList]
  rw [e]
  exact h _ _ (fresh_ints (R.grow kk.grow).lists (ints_cut ib p1 p2) (Nat.le_trans (cut_len _ _ _) zb)) (kk.trans .push') (fun a q => by (injection q with q; subst q); exact ⟨kk.fresh, _, Heap.get?_push_size _ rfl, rfl⟩)
theorem blt1 (OK : LOk X) {k : LC} {env : Env} (EL : EnvL env k.vars) (KO : KOk k env) {hs : Addr → Option Obj} {N₀ W : Addr → Prop} {ρ : LLoc} {s : Shared} (R : Rd X hs N₀ env k.vars ρ W s.heap) {n : Str} {nm : String} (hb : (n, .builtin nm) ∈ bltT) (hd : (n == ("__debug__" : Str)) = false) (hg : k.isGlob n = true) {q : Pos} {e : PySem.Expr} {p : Pos} (hp : plainL e = true)
    {Q : Value → Shared → Prop} {E' : Value → Shared → Prop} (h : wpAny (model X.x.prog X.x.w) A (eval e env) (fun y s₁ => wpAny (model X.x.prog X.x.w) A (call (.builtin nm) [y]) Q E' s₁) E' s) : wpAny (model X.x.prog X.x.w) A (eval (.Call (.Name n q) [e] [] p) env) Q E' s := by
  obtain ⟨b1, b2⟩ := OK.blt n _ hb
  exact wpAny_Call_NameR (load_builtin EL (OK.g.keeps R.base) (OK.b.keeps R.base) (KO.g _ (isGlob_of hg)) b1 b2 hd (PyProof.Rows.callWith_builtin1 (args_cons (wpAny_mono h (fun y s₁ h₁ => args_nil h₁) fun _ _ x => x) (plainL_star hp env [])) (plainL_star hp env []) rfl))
theorem g_len (OK : LOk X) {a : LE} (ga : GoodE X A cf a) : GoodE X A cf (.len a) := by
  intro k env ρ hs N₀ W ex v ht he EL KO hl s Q E' R h
  refine inv_trL_len ht fun _ _ _ _ hx₀ ht => ?_
  subst hx₀
  refine and_el ht fun ht ha => ?_
  refine and_el ht fun ht hp => ?_
  refine and_el ht fun ht hg => ?_
  cases beq_iff_eq.mp ht
  refine bind_el he fun x hx he => ?_
  refine map_el he fun xs hxs e => ?_
  subst e
  cases LV.ints?_of hxs
  refine blt1 OK EL KO R (.head _) (by decide) hg hp (ga k env ρ hs N₀ W _ _ ha hx EL KO hl s _ _ R fun ya s₁ ra ka => ?_)
  obtain ⟨b, its, rfl, _, lb, ib, zb⟩ := ra
  have hz := ints_len ib
  exact len_list lb (lim_63 (by rw [hz]; exact zb)) (by rw [hz]; exact h _ _ ⟨_, rfl⟩ (ka.trans .tok))
theorem g_divm (OK : LOk X) {a b : LE} (ga : GoodE X A cf a) (gb : GoodE X A cf b) : GoodE X A cf (.divm a b) := by
  intro k env ρ hs N₀ W ex v ht he EL KO hl s Q E' R h
  refine inv_trL_divm ht fun _ _ _ _ _ hx₀ ht => ?_
  subst hx₀
  refine and_el ht fun ht hb => ?_
  refine and_el ht fun ht ha => ?_
  refine and_el ht fun ht hp2 => ?_
  refine and_el ht fun ht hp => ?_
  refine and_el ht fun ht hg => ?_
  cases beq_iff_eq.mp ht
  refine bind_el he fun u hx he => ?_
  refine bind_el he fun x hu he => ?_
  refine bind_el he fun w hy he => ?_
  refine bind_el he fun y hw he => ?_
  obtain ⟨q, e⟩ := ite_of he
  (injection e with e; subst e)
  cases LV.int?_of hu
  cases LV.int?_of hw
  obtain ⟨b1, b2⟩ := OK.blt "divmod" (.builtin "divmod") (.tail _ (.tail _ (.head _)))
  refine wpAny_Call_NameR (load_builtin EL (OK.g.keeps R.base) (OK.b.keeps R.base) (KO.g _ (isGlob_of hg)) b1 b2 (by decide) ?_)
  refine PyProof.Rows.callWith_builtin1 (args_cons (ga k env ρ hs N₀ W _ _ ha hx EL KO hl s _ _ R fun ya s₁ ra ka => args_cons (gb k env ρ hs N₀ W _ _ hb hy EL KO hl s₁ _ _ (R.grow ka.grow) fun yb s₂ rb kb => args_nil ?_) (plainL_star hp2 env [])) (plainL_star hp env _)) (plainL_star hp env _) (by rw [plainL_star hp2]; rfl)
  obtain ⟨t, rfl⟩ := ra
  obtain ⟨u, rfl⟩ := rb
  exact divmod_int q.1 (h _ _ ⟨_, _, rfl, ⟨_, Heap.get?_push_size _ rfl, rfl, _, rfl⟩, .cons ⟨_, rfl⟩ (.cons ⟨_, rfl⟩ .nil)⟩ ((ka.trans kb).trans .push)) (Or.inl (PyProof.noPylong_small q.2))
theorem mapO_paired {α β γ : Type} {F : α → γ → Prop} {G : β → γ → Prop} {f : α → Option β} (hf : ∀ a b c, f a = some b → F a c → G b c) {l : List α} {r : List β} {cs : List γ} (h : mapO f l = some r) (p : Paired F l cs) : Paired G r cs := by
  induction p generalizing r with
  | nil => (injection h with h; subst h); exact .nil
  | cons q _ ih =>
    refine bind_el h fun b hb h => ?_
    refine map_el h fun rs hr e => ?_
    subst e
    exact .cons (hf _ _ _ hb q) (ih hr)
theorem mapO_len {α β : Type} {f : α → Option β} : ∀ {l : List α} {r : List β}, mapO f l = some r → r.length = l.length
  | [], _, h => by (injection h with h; subst h); rfl
  | a :: l, r, h => by
    refine bind_el h fun b hb h => ?_
    refine map_el h fun rs hr e => ?_
    subst e
    exact congrArg (· + 1) (mapO_len hr)
theorem paired_ints {N : Addr → Prop} {h : Heap} {xs : List Int} {vs : List Value} (p : Paired (fun n v => RA N h (.int n) v) xs vs) : IntsAre vs xs := by
  induction p with
  | nil => exact .nil
  | cons r _ ih => obtain ⟨t, rfl⟩ := r; exact .cons _ t ih
theorem g_disp {es : LEs} (ge : GoodEs X A cf es) : GoodF X A cf (.disp es) := by
  intro k env ρ hs N₀ W ex v ht he EL KO hl s Q E' R h
  refine inv_trL_disp ht fun _ _ hx₀ ht => ?_
  subst hx₀
  refine bind_el he fun vs hv he => ?_
  obtain ⟨hz, he⟩ := ite_of he
  refine wpAny_List (ge k env ρ hs N₀ W _ vs _ ht hv EL KO hl s _ _ R fun ys s' p k' => ?_)
  have hlen : ys.length = vs.length := p.length.symm
  refine ⟨by rw [hlen]; exact Nat.le_trans hz lim_size, ?_⟩
  have L' := (R.grow k'.grow).lists
  have gr : Grow s'.heap (s'.heap.push { cls := .type "list", data := .seq ys.toArray }) := fun _ _ e => Heap.get?_push_of_some _ e
  have nf : ¬ fl (stb.stbs es) (nn N₀ W) s'.heap.objs.size := fun q => fresh_notin L' fresh_size q.2
  have up := k'.trans (Kg.push' (s := s') (o := { cls := .type "list", data := .seq ys.toArray }))
  have nw : NewP s.heap (s'.heap.push { cls := .type "list", data := .seq ys.toArray }) (.ref s'.heap.objs.size) := fun a q => by (injection q with q; subst q); exact ⟨k'.fresh, _, Heap.get?_push_size _ rfl, rfl⟩
  have ls : (s'.heap.push { cls := .type "list", data := .seq ys.toArray }).IsList s'.heap.objs.size ys.toArray := ⟨_, Heap.get?_push_size _ rfl, rfl, _, rfl⟩
  rcases alt_of he with ⟨xs, hx, e⟩ | he
  · (injection e with e; subst e)
    exact h _ _ (fresh_ints L' (paired_ints (N := fun _ => False) (h := s'.heap) (mapO_paired (fun a b c hf q => by cases LV.int?_of hf; exact q) hx p)) (by rw [mapO_len hx]; exact hz)) up nw
  rcases alt_of he with ⟨xs, hx, e⟩ | he
  · (injection e with e; subst e)
    exact h _ _ ⟨_, ys.toArray, rfl, nf, ls, mapO_paired (fun a b c hf q => by cases LV.tup?_of hf; exact RT.grow q gr) hx p, by rw [mapO_len hx]; exact hz⟩ up nw
  · obtain ⟨xs, hx, e⟩ := map_of he
    subst e
    exact h _ _ ⟨_, ys.toArray, rfl, nf, ls, mapO_paired (fun a b c hf q => by cases LV.ints?_of hf; exact RA.grow q gr) hx p, by rw [mapO_len hx]; exact hz⟩ up nw
theorem g_tup {es : LEs} (ge : GoodEs X A cf es) : GoodE X A cf (.tup es) := by
  intro k env ρ hs N₀ W ex v ht he EL KO hl s Q E' R h
  refine inv_trL_tup ht fun _ _ _ hx₀ ht => ?_
  subst hx₀
  refine bind_el he fun vs hv he => ?_
  obtain ⟨hz, he⟩ := ite_of he
  refine map_el he fun xs hx e => ?_
  subst e
  refine wpAny_Tuple (ge k env ρ hs N₀ W _ vs _ ht hv EL KO hl s _ _ R fun ys s' p k' => ?_)
  have hlen : ys.length = vs.length := p.length.symm
  refine ⟨by rw [hlen]; exact Nat.le_trans hz lim_size, ?_⟩
  have gr : Grow s'.heap (s'.heap.push { cls := .type "tuple", data := .seq ys.toArray }) := fun _ _ e => Heap.get?_push_of_some _ e
  exact h _ _ ⟨_, ys.toArray, rfl, ⟨_, Heap.get?_push_size _ rfl, rfl, _, rfl⟩, mapO_paired (fun a b c hf q => by cases LV.at?_of hf; exact RA.grow q gr) hx p⟩ (k'.trans .push')
theorem M.get_mem (σ : M) (xs : List Int) (f : Fld) : ({ σ with mem := xs } : M).get f = σ.get f := by cases f <;> rfl
theorem Mr.apart {x : Cx} {σ : M} {h : Heap} (m : Mr x σ h) : x.D ≠ x.L := by
  obtain ⟨mm, n, _⟩ := m.ns
  obtain ⟨o, es, ep, e, d⟩ := ns_kind n.ns
  obtain ⟨its, ⟨o2, k2, e2, c2, _, d2⟩, _⟩ := m.mem
  intro q
  rw [q, e2] at e; (injection e with e; subst e); rw [d2] at d; injection d
theorem g_attr (OK : LOk X) (v : Nat) (f : Fld) : GoodE X A cf (.attr v f) := by
  intro k env ρ hs N₀ W ex u ht he EL KO hl s Q E' R h
  refine inv_trL_attr ht fun _ _ _ _ hx₀ ht => ?_
  subst hx₀
  refine and_el ht fun hv ht => ?_
  cases beq_iff_eq.mp ht
  refine bind_el he fun w hw he => ?_
  obtain ⟨⟨σ, mv⟩, hp, he⟩ := bind_of he
  refine map_el he fun i hi e => ?_
  subst e
  cases LV.mpu?_of hp
  obtain ⟨I, D, L, xs, nm, a, m⟩ := R.mach _ _ _ _ (isVarL_of hv) hw
  have hg' : ({ σ with mem := xs } : M).get f = .int i := (M.get_mem σ xs f).trans (V.int?_of hi)
  refine Attribute_Name_ (load_at EL (isVarL_of hv) a (get_fld (x := X.at I D L) (OK.ok I D L m.d0 m.l0 m.mr.apart) m.mr f (hg' ▸ fun q => nomatch q) fun y r => h y _ ?_ .tok))
  rw [hg'] at r
  exact r
theorem g_call (OK : LOk X) (hcf : CallLOk X A cf) {f : Nat} {es : LEs} (ge : GoodEs X A cf es) : GoodE X A cf (.call f es) := by
  intro k env ρ hs N₀ W ex v ht he EL KO hl s Q E' R h
  refine inv_trL_call ht fun _ _ l _ hx₀ ht => ?_
  subst hx₀
  refine and_el ht fun ht hes => ?_
  refine and_el ht fun ht hst => ?_
  refine and_el ht fun ht hne => ?_
  refine and_el ht fun hg hf => ?_
  refine bind_el he fun vs hv he => ?_
  obtain ⟨fd, hF, hmg, hdb, ⟨o, fdt, ho, hd⟩, H⟩ := hcf f vs v he
  rw [hF] at hf
  obtain rfl := beq_iff_eq.mp hf
  refine wpAny_Call_NameR (load_global EL (OK.g.keeps R.base) (KO.g _ (isGlob_of hg)) hmg hdb ?_)
  cases l with
  | nil => injection hne
  | cons e0 l =>
    have hpl : plainL e0 = true := by
      cases es
      · injection hes
      · exact (Bool.and_eq_true_iff.mp (Bool.and_eq_true_iff.mp hes).1).1
    refine callWith_def hd (ge k env ρ hs N₀ W _ vs _ hes hv EL KO hl s _ _ R fun ys s₁ p k₁ => ?_) (plainL_star hpl env l)
    have R₁ := R.grow k₁.grow
    exact ⟨R₁.base _ _ ho, wpAny_call (H s₁ (nn N₀ W) ys _ R₁.base R₁.lists (p.mono fun _ _ q => q.unfl hst) fun y s₂ r₂ k₂ => h y s₂ r₂.tofl (k₁.trans k₂))⟩
end
end Mine

end
section
open PySem PySem.W PyProof.Rows
set_option maxRecDepth 100000
set_option maxHeartbeats 1000000
set_option linter.unusedSimpArgs false
set_option linter.unusedVariables false
set_option linter.unusedSectionVars false
namespace Mine
section
variable {X : LX} {A : Around} {cf : Nat → List LV → Option LV}
theorem paired_rev' {α β : Type} {F : α → β → Prop} : ∀ {l₁ : List α} {l₂ : List β}, Paired F l₁ l₂ → Paired F l₁.reverse l₂.reverse
  | _, _, .nil => .nil
  | _, _, .cons r p => by rw [List.reverse_cons, List.reverse_cons]; exact (paired_rev' p).snoc r
theorem g_rev {a : LE} (ga : GoodE X A cf a) : GoodE X A cf (.rev a) := by
  intro k env ρ hs N₀ W ex v ht he EL KO hl s Q E' R h
  refine inv_trL_rev ht fun l p1 p2 p3 p4 p5 hx₀ hst ha => ?_
  subst hx₀
  refine bind_el he fun x hx he => ?_
  refine map_el he fun xs hxs e => ?_
  subst e
  refine Subscript_ (ga k env ρ hs N₀ W _ _ ha hx EL KO hl s _ _ R fun ya s₁ ra ka => wpAny_Slice ?_)
  rw [evalPart_none]
  refine wpAny_pure ?_
  refine wpAny_pure ?_
  rw [evalPart_some]
  refine UnaryOp_ (wpAny_Constant_int (PyProof.Rows.neg_int ?_))
  have ra := ra.unfl hst
  obtain ⟨b, its, rfl, lb, pb⟩ := rowsE_list ra hxs
  have hz : its.size ≤ lim := by
    rcases LV.rowsE?_of hxs with rfl | ⟨rfl, rfl⟩
    · obtain ⟨b', its', e, _, l', p', z⟩ := ra
      (injection e with e; subst e)
      obtain ⟨o, eo, _, n, d⟩ := lb; obtain ⟨o', eo', _, n', d'⟩ := l'
      rw [eo] at eo'; (injection eo' with eo'; subst eo'); rw [d] at d'; (injection d' with d'; subst d')
      rw [← Array.length_toList, ← pb.length]; exact z
    · rw [← Array.length_toList, ← pb.length]; exact Nat.zero_le _
  generalize hs2 : ({ s₁ with toks := s₁.toks + 1 + 1 } : Shared) = s₂
  have e2 : s₂.heap = s₁.heap := by rw [← hs2]
  have kt : Kg s s₂ := by rw [← hs2]; exact ka.trans .tok
  show wpAny (model X.x.prog X.x.w) A (subscriptTail l (.Slice none none (some (.UnaryOp .USub (.Constant (.int 1) p1 p2) p3)) p4) (.ref b) (.ref s₂.heap.objs.size)) Q E' { s₂ with heap := s₂.heap.push { cls := .type "slice", data := .fields #[.none, .none, .int (-1) (s₁.toks + 1)] } }
  have lb2 : s₂.heap.IsList b its := e2 ▸ lb
  have pb2 : Paired (RT (nn N₀ W) s₂.heap) xs its.toList := e2 ▸ pb
  have kk := kt.trans (Kg.push' (s := s₂) (o := { cls := .type "slice", data := .fields #[.none, .none, .int (-1) (s₁.toks + 1)] }))
  have lp := lb2.push { cls := .type "slice", data := .fields #[.none, .none, .int (-1) (s₁.toks + 1)] }
  refine tail_any lp.typeIs slot_list_getitem.lookup (wpAny_getItem_list_slice lp (Heap.IsSliceOf.new ..) .none .none (.int (-1) _) (by decide) ?_ (Nat.le_trans hz lim_size)) (ops := [.ref b, .ref s₂.heap.objs.size]) rfl
  rw [krv_pick]
  have L := (R.grow kk.grow).lists
  refine h _ _ ⟨_, its.toList.reverse.toArray, rfl, fun q => fresh_notin L fresh_size q.2, ⟨_, Heap.get?_push_size _ rfl, rfl, _, rfl⟩, ?_, ?_⟩ (kk.trans .push')
  · exact (paired_rev' pb2).mono fun _ _ q => (RT.grow (RT.grow q (Kg.push' (s := s₂) (o := { cls := .type "slice", data := .fields #[.none, .none, .int (-1) (s₁.toks + 1)] })).grow) (Kg.push' (s := { s₂ with heap := s₂.heap.push { cls := .type "slice", data := .fields #[.none, .none, .int (-1) (s₁.toks + 1)] } })).grow).weak fun _ _ z => z.2
  · rw [List.length_reverse, pb.length, Array.length_toList]; exact hz
end
end Mine

end
section
open PySem PySem.W PyProof.Rows
set_option maxRecDepth 100000
set_option maxHeartbeats 1000000
set_option linter.unusedSimpArgs false
set_option linter.unusedVariables false
set_option linter.unusedSectionVars false
namespace Mine
section
variable {X : LX} {A : Around} {cf : Nat → List LV → Option LV}
theorem go_range {s : Shared} {I : Addr} {x l c : Int} {T : Addr} {elts : List PySem.Expr} {j : Nat} {pos : Pos} {Q : Unit → Shared → Prop} {E : Value → Shared → Prop} (hit : IsRangeIter s.heap I x l c) (hQ : Q () s) :
    wpAny (model X.x.prog X.x.w) A (letOwnedTupleGo (.Tuple elts j pos) (.ref I) (.ref T)) Q E s := by
  unfold letOwnedTupleGo
  refine wpAny_bind (wpAny_load hit ?_)
  show wpAny _ A (if (["enumerate", "zip", "dict_itemiterator", "dict_reverseitemiterator", "odict_iterator", "itertools.zip_longest", "itertools.pairwise"].contains "range_iterator" && _ == some (rawInt T)) = true then _ else _) Q E s
  rw [if_neg (by
    intro h
    rw [show (["enumerate", "zip", "dict_itemiterator", "dict_reverseitemiterator", "odict_iterator", "itertools.zip_longest", "itertools.pairwise"].contains "range_iterator") = false from by decide, Bool.false_and] at h
    injection h)]
  exact wpAny_pure hQ
theorem paired_at {α β : Type} {F : α → β → Prop} {l₁ : List α} {l₂ : List β} (p : Paired F l₁ l₂) : ∀ (i : Nat) (y : β), l₂[i]? = some y → ∃ x, l₁[i]? = some x ∧ F x y := by
  induction p with
  | nil => intro i y h; injection h
  | cons r _ ih =>
    intro i y h
    cases i with
    | zero => (injection h with h; subst h); exact ⟨_, rfl, r⟩
    | succ i => exact ih i y h
theorem src_list {s s₁ : Shared} {N₀ W : Addr → Prop} {a : Addr} {its : Array Value} {items : List LV} (hh : A.handled = none) (x : Lists (nn N₀ W) s.heap) (k : Kg s s₁) (na : ¬ nn N₀ W a) (hl : s₁.heap.IsList a its) (p : Paired (RV (nn N₀ W) s₁.heap) items its.toList) (hz : items.length ≤ lim) :
    SrcIt X A N₀ W s items (.ref s₁.heap.objs.size) { s₁ with heap := s₁.heap.push { cls := .type "list_iterator", data := .fields #[.ref a, .int 0 0] } } := by
  have hlt : a < s₁.heap.objs.size := by obtain ⟨o, e, _⟩ := hl; exact Heap.lt_size e
  have gr : Grow s₁.heap (s₁.heap.push { cls := .type "list_iterator", data := .fields #[.ref a, .int 0 0] }) := fun _ _ e => Heap.get?_push_of_some _ e
  have hsz : its.size = items.length := by rw [p.length, Array.length_toList]
  have W0 := Walks.list (prog := X.x.prog) (w := X.x.w) hh s₁.heap.objs.size a (Nat.ne_of_lt hlt) its
  rw [hsz] at W0
  refine ⟨_, _, _, _, s₁.heap, rfl, hz, W0, ⟨⟨_, Heap.get?_push_size _ rfl, rfl, rfl⟩, hl.push _⟩, fresh_size, k.grow, gr, k.trans .push', ⟨_, Heap.get?_push_size _ rfl⟩, ?_, ?_, ?_, ?_, ?_⟩
  · intro b hb
    rcases List.mem_cons.mp hb with rfl | hb
    · exact .inl rfl
    · rw [List.mem_singleton.mp hb]
      obtain ⟨o, e, st, _⟩ := list_store hl
      exact .inr ⟨o, e, st, fun w => na (.inr w)⟩
  · intro i v hv
    obtain ⟨lv, e, r⟩ := paired_at p i v (by simpa using hv)
    exact ⟨lv, e, r⟩
  · intro i h b o st hb e
    rcases List.mem_cons.mp hb with rfl | hb
    · obtain ⟨o', e', c, d⟩ := st.1
      rw [e] at e'; (injection e' with e'; subst e'); unfold isStore; rw [d]
    · rw [List.mem_singleton.mp hb] at e
      obtain ⟨o', e', st', _⟩ := list_store st.2
      rw [e] at e'; (injection e' with e'; subst e'); exact st'
  · intro i h st
    obtain ⟨o', e', c, d⟩ := st.1
    exact ⟨o', _, e', d, by rw [c]; intro q; injection q with z; exact absurd z (by decide)⟩
  · intro i s' T elts j pos Q E st hQ
    exact wpAny_letOwnedTupleGo_listiter st.1 hQ
theorem paired_map {α β γ : Type} {F : α → γ → Prop} {G : β → γ → Prop} {f : α → β} (h : ∀ a c, F a c → G (f a) c) {l : List α} {cs : List γ} (p : Paired F l cs) : Paired G (l.map f) cs := by
  induction p with
  | nil => exact .nil
  | cons r _ ih => exact .cons (h _ _ r) ih
theorem g_lst (hh : A.handled = none) {e : LE} (ge : GoodE X A cf e) : GoodS X A cf (.lst e) := by
  intro k env ρ hs N₀ W ex items ht he EL KO hl s Q E' R h
  refine and_el ht fun ht hx => ?_
  refine and_el ht fun _ hst => ?_
  refine bind_el he fun v hv hi => ?_
  refine ge k env ρ hs N₀ W _ v hx hv EL KO hl s _ _ R fun y s₁ r k₁ => ?_
  have r := r.unfl hst
  rcases alt_of hi with ⟨xs, hxs, e⟩ | hi
  · (injection e with e; subst e)
    cases LV.ints?_of hxs
    obtain ⟨a, its, rfl, na, l, i, z⟩ := r
    exact wpAny_pyIter_list l (h _ _ (src_list hh R.lists k₁ na l (paired_map (f := LV.int) (fun n v q => q) (ints_paired i)) (by rw [List.length_map]; exact z)))
  · obtain ⟨xs, hxs, e⟩ := map_of hi
    subst e
    cases LV.rows?_of hxs
    obtain ⟨a, its, rfl, na, l, i, z⟩ := r
    exact wpAny_pyIter_list l (h _ _ (src_list hh R.lists k₁ na l (paired_map (f := LV.tup) (fun n v q => q) i) (by rw [List.length_map]; exact z)))
theorem rng_inv {F : List FnD} {k : LC} {e : LE} {ex : PySem.Expr} (h : trSrc F k (.rng e) ex = true) : ∃ q x p, ex = .Call (.Name ("range" : Str) q) [x] [] p ∧ k.isGlob "range" = true ∧ plainL x = true ∧ trL F k e x = true := by
  apply o_Call_elim h; intro z1 l kw z2 h
  apply o_Name_elim h; intro n z3 h
  apply o_cons_elim h; intro x z4 h
  apply o_nil_elim h; intro h
  apply o_nil_elim h; intro h
  refine and_el h fun h h4 => ?_
  refine and_el h fun h h3 => ?_
  refine and_el h fun h1 h2 => ?_
  cases beq_iff_eq.mp h1
  exact ⟨_, _, _, rfl, h2, h3, h4⟩
theorem g_rng (OK : LOk X) (hh : A.handled = none) {e : LE} (ge : GoodE X A cf e) : GoodS X A cf (.rng e) := by
  intro k env ρ hs N₀ W ex items ht he EL KO hl s Q E' R h
  obtain ⟨q0, x0, p0, rfl, hg, hp, ht⟩ := rng_inv ht
  refine bind_el he fun v hv hi => ?_
  refine bind_el hi fun n hn hi => ?_
  obtain ⟨q, e⟩ := ite_of hi
  (injection e with e; subst e)
  cases LV.int?_of hn
  obtain ⟨b1, b2⟩ := OK.blt "range" (.type "range") (.tail _ (.tail _ (.tail _ (.head _))))
  refine wpAny_Call_NameR (load_builtin EL (OK.g.keeps R.base) (OK.b.keeps R.base) (KO.g _ (isGlob_of hg)) b1 b2 (by decide) ?_)
  rw [plainL_star hp env []]
  refine PySem.callWith_type rfl (Calls.evalArgs_plain (Calls.spliced_cons (ge k env ρ hs N₀ W _ _ ht hv EL KO hl s _ _ R fun y s₁ r k₁ => Calls.spliced_nil ?_)))
  obtain ⟨t, rfl⟩ := r
  have hlim : (lim : Int) < 2 ^ 40 := by decide
  refine call_range_1 (wpAny_pyIter_range (IsRange.new ..) (small_one (by decide) (by decide) (by lia) (by lia)) ?_)
  have hsz : Builtin.Range.rangeSize 0 n 1 = (n.toNat : Int) := by rw [rangeSize_one]; split <;> lia
  rw [hsz]
  refine h _ _ ?_
  have kk : Kg s { s₁ with heap := s₁.heap.push { cls := .type "range", data := .fields #[.int 0 s₁.toks, .int n t, .int 1 (s₁.toks + 1)] }, toks := s₁.toks + 1 + 1 } := k₁.trans .push
  generalize hh2 : s₁.heap.push { cls := .type "range", data := .fields #[.int 0 s₁.toks, .int n t, .int 1 (s₁.toks + 1)] } = hp2 at kk
  have W0 := (Walks.range (prog := X.x.prog) (w := X.x.w) hh hp2.objs.size 0 1 n.toNat).bound
  have hlen : ((List.range n.toNat).map fun i : Nat => LV.int (i : Int)).length = n.toNat := by simp
  rw [← hlen] at W0
  refine ⟨_, _, _, _, s.heap, rfl, by rw [hlen]; lia, W0, ?_, kk.fresh, fun _ _ e => e, (kk.trans .push').grow, kk.trans .push', ⟨_, Heap.get?_push_size _ rfl⟩, ?_, ?_, ?_, ?_, ?_⟩
  · rw [hlen]
    have e1 : (0 + ((0 : Nat) : Int) * 1) = 0 := by simp
    have e2 : ((n.toNat : Int) - ((0 : Nat) : Int)) = n.toNat := by simp
    rw [e1, e2]
    exact Heap.get?_push_size _ rfl
  · intro b hb
    exact .inl (List.mem_singleton.mp hb)
  · rintro i v ⟨hi, t', rfl⟩
    rw [hlen] at hi
    exact ⟨.int i, by simp [hi], ⟨t', by simp⟩⟩
  · intro i h b o st hb e
    rw [List.mem_singleton.mp hb] at e
    have st' : h.get? _ = some _ := st
    rw [e] at st'; (injection st' with st'; subst st'); rfl
  · intro i h st
    exact ⟨_, _, st, rfl, by intro q; injection q with z; exact absurd z (by decide)⟩
  · intro i s' T elts j pos Q E st hQ
    exact go_range st hQ
theorem mask_at {caps : List Nat} {ρ : LLoc} {i : Nat} {v : LV} (h : LLoc.at (maskL caps ρ) i = some v) : caps.contains i = true ∧ readV ρ i = some v := by
  unfold LLoc.at maskL at h
  rw [List.getElem?_map] at h
  by_cases q : i < ρ.length
  · rw [List.getElem?_range q] at h
    exact cond_of h
  · rw [List.getElem?_eq_none (by rw [List.length_range]; lia)] at h
    injection h
theorem mask_len {caps : List Nat} {ρ : LLoc} : (maskL caps ρ).length = ρ.length := by unfold maskL; simp
theorem at_append {ρ : LLoc} {v w : LV} {i : Nat} (h : LLoc.at (ρ ++ [some w]) i = some v) : (i < ρ.length ∧ ρ.at i = some v) ∨ (i = ρ.length ∧ v = w) := by
  unfold LLoc.at at h
  rcases Nat.lt_trichotomy i ρ.length with q | q | q
  · rw [List.getElem?_append_left q] at h; exact .inl ⟨q, h⟩
  · subst q; simp at h; exact .inr ⟨rfl, h.symm⟩
  · rw [List.getElem?_eq_none (by simp; lia)] at h; injection h
structure CompOk (k : LC) (caps : List Nat) (x : Str) (sc : Scope) : Prop where
  kind : sc.kind = .function
  dbg : (x == ("__debug__" : Str)) = false
  xl : sc.names.lookup x = some .local
  cell : ∀ y ∈ sc.names, y.2 ≠ .cell
  loc : ∀ y ∈ sc.names, y.2 = .local → sc.names.lookup y.1 = some .local
  free : ∀ y ∈ sc.names, y.2 = .free → k.names.lookup y.1 = some .cell
  caps : ∀ i ∈ caps, ∃ n, k.vars[i]? = some n ∧ n ≠ x ∧ sc.names.lookup n = some .free ∧ k.names.lookup n = some .cell
theorem compOk_of {k : LC} {caps : List Nat} {x : Str} {sc : Scope} (h : compSc k caps x sc = true) : CompOk k caps x sc := by
  unfold compSc at h
  simp only [Bool.and_eq_true, beq_iff_eq, bne_iff_ne, List.all_eq_true] at h
  obtain ⟨⟨⟨⟨h1, h2⟩, h3⟩, h4⟩, h5⟩ := h
  refine ⟨h1, beq_eq_false_iff_ne.mpr h2, h3, fun y hy q => ?_, fun y hy q => ?_, fun y hy q => ?_, fun i hi => ?_⟩
  · have := h4 y hy; rw [q] at this; injection this
  · have := h4 y hy; rw [q] at this; exact beq_iff_eq.mp this
  · have := h4 y hy; rw [q] at this; exact beq_iff_eq.mp this
  · have := h5 i hi
    split at this
    · rename_i n hn
      simp only [Bool.and_eq_true, bne_iff_ne, beq_iff_eq] at this
      exact ⟨n, hn, this.1.1, this.1.2, this.2⟩
    · injection this
theorem comp_rd {k : LC} {caps : List Nat} {x : Str} {sc : Scope} {env : Env} {ρ : LLoc} {hs : Addr → Option Obj} {N₀ W : Addr → Prop} (C : CompOk k caps x sc) (EL : EnvL env k.vars) (KO : KOk k env) (hl : ρ.length = k.vars.length)
    {s s₃ : Shared} (R : Rd X hs N₀ env k.vars ρ W s.heap) (gr : Grow s.heap s₃.heap) {Ca : Addr} {m : Str → Option Value} (ns : s₃.heap.Ns Ca m) {n : Int} {t : Tok} (hm : m x = some (.int n t)) :
    Rd X hs N₀ (compEnvC sc (clOf env.cells sc.names []) Ca env) (k.vars ++ [x]) (maskL caps ρ ++ [some (.int n)]) W s₃.heap ∧ EnvL (compEnvC sc (clOf env.cells sc.names []) Ca env) (k.vars ++ [x]) ∧ KOk ⟨sc.names, k.vars ++ [x]⟩ (compEnvC sc (clOf env.cells sc.names []) Ca env) := by
  have R₃ := R.grow gr
  have hx : (compEnvC sc (clOf env.cells sc.names []) Ca env).kindOf x = some .local := lookup_relabel_local C.xl
  refine ⟨⟨R₃.base, R₃.lists, fun i nm v hi hv => ?_, fun i nm σ mv hi hv => ?_⟩, ⟨C.kind, EL.glob, EL.blt, fun v hv => ?_⟩, ⟨fun nm h => ?_, fun nm h => ?_⟩⟩
  · rcases at_append hv with ⟨q, hv⟩ | ⟨q, rfl⟩
    · obtain ⟨hc, hr⟩ := mask_at hv
      obtain ⟨e, st⟩ := readV_of hr
      obtain ⟨nm', hn', hne, hf, hkc⟩ := C.caps i (List.contains_iff_mem.mp hc)
      rw [mask_len, hl] at q
      rw [List.getElem?_append_left q] at hi
      rw [hi] at hn'; (injection hn' with hn'; subst hn')
      obtain ⟨y, hy, r⟩ := R₃.var i nm v hi e
      refine ⟨y, ?_, r⟩
      obtain ⟨kc, c, hcl⟩ := KO.c nm hkc
      rcases hy with ⟨kk, _⟩ | ⟨kk, c', hc', hcell⟩
      · rw [kc] at kk; cases kk
      · refine .inr ⟨(relabel_cell C.cell EL.kind).mpr ⟨hf, kc⟩, c', ?_, hcell⟩
        obtain ⟨l1, l2⟩ := clOf_lookup (cells := env.cells) sc.names [] (fun _ _ q => by simp at q)
        have hmem : (nm, NameKind.free) ∈ sc.names := mem_of_lookup hf
        obtain ⟨d, hd⟩ := Option.isSome_iff_exists.mp (l2 nm (.inr ⟨hmem, by rw [hc']; rfl⟩))
        have := l1 nm d hd
        rw [hc'] at this; (injection this with this; subst this)
        exact hd
    · rw [mask_len, hl] at q
      subst q
      rw [List.getElem?_append_right (Nat.le_refl _)] at hi
      simp at hi
      subst hi
      exact ⟨.int n t, .inl ⟨hx, m, ns, hm⟩, ⟨t, rfl⟩⟩
  · rcases at_append hv with ⟨q, hv⟩ | ⟨q, hv⟩
    · obtain ⟨hc, hr⟩ := mask_at hv
      obtain ⟨e, st⟩ := readV_of hr
      injection st
    · injection hv
  · rcases List.mem_append.mp hv with h | h
    · exact EL.nodbg v h
    · rw [List.mem_singleton.mp h]; exact C.dbg
  · exact relabel_glob (by decide) (by decide) h
  · exact absurd rfl (C.cell (nm, .cell) (mem_of_lookup h))
noncomputable def eltF (cf : Nat → List LV → Option LV) (elt : LE) (caps : List Nat) (ρ : LLoc) (it : LV) : Option Int := (evL cf elt (maskL caps ρ ++ [some it])).bind LV.int?
noncomputable def eltR (cf : Nat → List LV → Option LV) (elt : LE) (caps : List Nat) (ρ : LLoc) (v y : Value) : Prop := ∃ n t r u, v = .int n t ∧ eltF cf elt caps ρ (.int n) = some r ∧ y = .int r u
theorem mapO_at {α β : Type} {f : α → Option β} : ∀ {l : List α} {r : List β}, mapO f l = some r → ∀ {i : Nat} {a : α}, l[i]? = some a → ∃ b, f a = some b ∧ r[i]? = some b
  | a :: l, r, h, i, x, hi => by
    refine bind_el h fun b hb h => ?_
    obtain ⟨r', hr, e⟩ := map_of h
    subst e
    cases i with
    | zero => (injection hi with hi; subst hi); exact ⟨b, hb, rfl⟩
    | succ i => exact mapO_at hr hi
theorem comp_ints {elt : LE} {caps : List Nat} {ρ : LLoc} {items : List LV} {rs : List Int} {vs ys : List Value} (h : mapO (eltF cf elt caps ρ) items = some rs) (hl : vs.length = items.length)
    (hv : ∀ (j : Nat) (v : Value), vs[j]? = some v → ∃ (lv : LV) (n : Int) (t : Tok), items[j]? = some lv ∧ lv = LV.int n ∧ v = Value.int n t) (p : Paired (eltR cf elt caps ρ) vs ys) : IntsAre ys rs := by
  induction p generalizing items rs with
  | nil =>
    cases items with
    | nil => (injection h with h; subst h); exact .nil
    | cons a b => injection hl
  | cons q _ ih =>
    cases items with
    | nil => injection hl
    | cons it items =>
      refine bind_el h fun b hb h => ?_
      obtain ⟨r', hr, e⟩ := map_of h
      subst e
      obtain ⟨lv, n, t, e1, e2, e3⟩ := hv 0 _ rfl
      (injection e1 with e1; subst e1)
      obtain ⟨n', t', r, u, e4, e5, rfl⟩ := q
      rw [e4] at e3
      (injection e3 with e3; subst e3)
      rw [e2, e5] at hb
      (injection hb with hb; subst hb)
      exact .cons _ u (ih hr (Nat.succ.inj hl) fun j w hj => hv (j + 1) w hj)
theorem comp_quiet {k : LC} {caps : List Nat} {x : Str} {sc : Scope} {env : Env} {ρ : LLoc} {hs : Addr → Option Obj} {N₀ W : Addr → Prop} {elt : LE} {eex : PySem.Expr} (ge : GoodE X A cf elt) (C : CompOk k caps x sc) (EL : EnvL env k.vars) (KO : KOk k env) (hl : ρ.length = k.vars.length)
    (te : trL X.F ⟨sc.names, k.vars ++ [x]⟩ elt eex = true) {s s₂ : Shared} (R : Rd X hs N₀ env k.vars ρ W s.heap) (kg : Kg s s₂) {I : Addr} (nI : s.heap.get? I = none) {P : Nat → Value → Prop} {items : List LV} {rs : List Int} (hm : mapO (eltF cf elt caps ρ) items = some rs)
    (hP : ∀ i v, P i v → ∃ (lv : LV) (n : Int) (t : Tok), items[i]? = some lv ∧ lv = LV.int n ∧ v = Value.int n t) : QuietOnC X.x.prog X.x.w A env sc (clOf env.cells sc.names []) x [] eex [I] P (fun _ => true) (eltR cf elt caps ρ) s₂ where
  tests := fun Ca i v s₃ m₃ E' _ _ _ _ _ _ => by
    rw [List.forIn_nil]
    exact wpAny_pure ⟨rfl, ⟨s₃.heap, s₃.toks, rfl, fun _ _ e => e⟩⟩
  elt := fun Ca i v s₃ m₃ E' hCa hp _ ns hx keep _ => by
    obtain ⟨lv, n, t, e1, rfl, rfl⟩ := hP i v hp
    have gr : Grow s.heap s₃.heap := fun b o e => keep b o (fun q => by rw [List.mem_singleton.mp q, nI] at e; injection e) (kg.grow b o e)
    obtain ⟨R', EL', KO'⟩ := comp_rd C EL KO hl R gr ns hx
    obtain ⟨r, hr, _⟩ := mapO_at hm e1
    refine bind_el hr fun w hev hw => ?_
    cases LV.int?_of hw
    refine ge ⟨sc.names, k.vars ++ [x]⟩ _ _ hs N₀ W eex _ te hev EL' KO' (by simp [mask_len, hl]) s₃ _ _ R' fun y s₄ ry k₄ => ?_
    obtain ⟨u, rfl⟩ := ry
    obtain ⟨h4, t4, e4, g4⟩ := k₄
    exact ⟨⟨n, t, r, u, rfl, hr, rfl⟩, ⟨h4, t4, e4, g4⟩⟩
theorem walks_fp {I : Addr} {fp : List Addr} {W : Addr → Prop} {hp h : Heap} (eI : ∃ o, h.get? I = some o) (g : Grow hp h) (h' : ∀ b ∈ fp, b = I ∨ ∃ o, hp.get? b = some o ∧ isStore o = false ∧ ¬ W b) : ∀ b ∈ fp, b < h.objs.size := fun b hb => by
  rcases h' b hb with rfl | ⟨o, e, _⟩
  · obtain ⟨o, e⟩ := eI; exact Heap.lt_size e
  · exact Heap.lt_size (g _ _ e)
theorem none_down {h hp : Heap} {I : Addr} (g : Grow h hp) (e : hp.get? I = none) : h.get? I = none := by
  cases q : h.get? I with
  | none => rfl
  | some o => have := g _ _ q; rw [e] at this; injection this
theorem int_items {N : Addr → Prop} {h : Heap} {items : List LV} {xs : List Int} (hi : mapO asInt items = some xs) {P : Nat → Value → Prop} (hP : ∀ i v, P i v → ∃ lv, items[i]? = some lv ∧ RV N h lv v) : ∀ i v, P i v → ∃ (lv : LV) (n : Int) (t : Tok), items[i]? = some lv ∧ lv = LV.int n ∧ v = Value.int n t := by
  intro i v hp
  refine Classical.byContradiction fun hHid => ?_
  obtain ⟨lv, e, r⟩ := hP i v hp
  obtain ⟨n, hn, _⟩ := mapO_at hi e
  cases LV.int?_of hn
  obtain ⟨t, rfl⟩ := r
  refine hHid ?_
  clear hHid
  exact ⟨_, n, t, e, rfl, rfl⟩
theorem cells_of {k : LC} {caps : List Nat} {x : Str} {sc : Scope} {env : Env} (C : CompOk k caps x sc) (KO : KOk k env) : closureFor sc env = pure (clOf env.cells sc.names []) :=
  closure_eq fun y hy hf => (KO.c y.1 (C.free y hy hf)).2
theorem fold_src {F : List FnD} {k : LC} {src : LSrc} {it : PySem.Expr} (h : trSrc F k src it = true) (env : Env) : ∀ x, foldedSetIterable it env x = pure x := by
  intro x
  cases src with
  | rng e => obtain ⟨_, _, _, rfl, _⟩ := rng_inv h; rfl
  | lst e =>
    have h := (Bool.and_eq_true_iff.mp (Bool.and_eq_true_iff.mp h).1).1
    cases it <;> first | rfl | injection h
theorem filter_tt {α : Type} (l : List α) : l.filter (fun _ => true) = l := by simp
theorem comp_inv {elt : LE} {caps : List Nat} {src : LSrc} {ρ : LLoc} {v : LV} (he : evL cf (.comp elt caps src) ρ = some v) : ∃ items xs rs, evSrc cf src ρ = some items ∧ mapO asInt items = some xs ∧ mapO (eltF cf elt caps ρ) items = some rs ∧ v = .ints rs := by
  refine bind_el he fun items hi he => ?_
  refine bind_el he fun xs hxs he => ?_
  refine map_el he fun rs hrs e => ?_
  exact ⟨items, xs, rs, hi, hxs, hrs, e.symm⟩
theorem trC_inv {F : List FnD} {k : LC} {elt : LE} {caps : List Nat} {src : LSrc} {ex : PySem.Expr} (ht : trL F k (.comp elt caps src) ex = true) : ∃ e x y1 it sc y2, ex = .ListComp e [⟨.Name x y1, it, [], 0⟩] sc y2 ∧ CompOk k caps x sc ∧ trSrc F k src it = true ∧ trL F ⟨sc.names, k.vars ++ [x]⟩ elt e = true := by
  refine inv_trL_comp ht fun _ _ _ _ _ _ _ _ hx₀ ht => ?_
  subst hx₀
  refine and_el ht fun ht hel => ?_
  refine and_el ht fun ht hsr => ?_
  refine and_el ht fun ht hc => ?_
  refine and_el ht fun h1 h2 => ?_
  cases List.isEmpty_iff.mp h1
  cases beq_iff_eq.mp h2
  exact ⟨_, _, _, _, _, _, rfl, compOk_of hc, hsr, hel⟩
theorem g_comp {elt : LE} {caps : List Nat} {src : LSrc} (ge : GoodE X A cf elt) (gs : GoodS X A cf src) : GoodE X A cf (.comp elt caps src) := by
  intro k env ρ hs N₀ W ex v ht he EL KO hl s Q E' R h
  refine Classical.byContradiction fun hHid => ?_
  obtain ⟨_, _, _, _, _, _, rfl, C, hsr, hel⟩ := trC_inv ht
  obtain ⟨items, xs, rs, hi, hxs, hrs, rfl⟩ := comp_inv he
  refine hHid ?_
  clear hHid
  refine wpAny_ListComp_free (fun _ => true) (eltR cf elt caps ρ) (cells_of C KO) C.cell C.kind C.loc C.xl (gs k env ρ hs N₀ W _ items hsr hi EL KO hl s _ _ R fun it s₂ S => ?_) (fold_src hsr env)
  obtain ⟨I, fp, P, St, hp, rfl, hz, Wk, st, nI', g1, g2, kg, eI, hfp, hP, _⟩ := S
  have nI := none_down g1 nI'
  have hP' := int_items hxs hP
  refine ⟨I, fp, [I], items.length, P, St, rfl, Wk, Nat.le_trans hz lim_size, st, walks_fp (W := W) (I := I) eI g2 hfp, comp_quiet ge C EL KO hl hel R kg nI hrs hP', ?_⟩
  intro D h' tk ys vs hD lD pD hvl hvP pr keep
  rw [filter_tt] at pr
  have ia := comp_ints (cf := cf) hrs hvl (fun j w hj => hP' j w (hvP j w hj)) pr
  have gr : Grow s.heap h' := fun b o e => keep b o (fun q => by rw [List.mem_singleton.mp q, nI] at e; injection e) (kg.grow b o e)
  refine h _ _ ⟨D, ys, rfl, fun q => fresh_notin R.lists (none_down kg.grow hD) q.2, lD, ia, by rw [mapO_len hrs]; exact hz⟩ ?_
  obtain ⟨h2, t2, rfl, g2⟩ := kg
  exact ⟨h', tk, rfl, gr⟩
end
end Mine

end
section
open PySem PySem.W PyProof.Rows
set_option maxRecDepth 100000
set_option maxHeartbeats 1000000
set_option linter.unusedSimpArgs false
set_option linter.unusedVariables false
namespace Mine
structure EnvF (env : Env) (k : LC) : Prop where
  el : EnvL env k.vars
  ko : KOk k env
  nodup : k.vars.Nodup
  apart : env.cells.Pairwise fun x y => x.2 ≠ y.2
  kinds : ∀ n ∈ k.vars, env.kindOf n = some .local ∨ (env.kindOf n = some .cell ∧ ∃ c, env.cells.lookup n = some c)
  names : k.names = env.scope.names
structure FrR (X : LX) (hs : Addr → Option Obj) (N₀ : Addr → Prop) (env : Env) (vars : List Str) (ρ : LLoc) (W : Addr → Prop) (h : Heap) : Prop where
  rd : Rd X hs N₀ env vars ρ W h
  up : ∀ b o, X.x.h₀.get? b = some o → hs b = some o
  hb : ∀ b o, hs b = some o → h.get? b = some o
  wnew : ∀ a, W a → hs a = none
  locN : hs env.locals = none
  locNs : ∃ m, h.Ns env.locals m
  celN : ∀ n c, env.cells.lookup n = some c → hs c = none ∧ ∃ v, h.IsCell c v
  ownD : ∀ i j ni nj u v a, vars[i]? = some ni → vars[j]? = some nj → ρ.at i = some u → ρ.at j = some v → Ow u = true → Ow v = true → VarAt env h ni (.ref a) → VarAt env h nj (.ref a) → i = j
  mchD : ∀ i j ni nj σ τ m n I J D, vars[i]? = some ni → vars[j]? = some nj → ρ.at i = some (.mpu σ m) → ρ.at j = some (.mpu τ n) → VarAt env h ni (.ref I) → VarAt env h nj (.ref J) → h.get? I = some (instObj X.x.C D) → h.get? J = some (instObj X.x.C D) → i = j
  len : ρ.length = vars.length
  n0 : ∀ a, N₀ a → hs a ≠ none
section
variable {X : LX} {hs : Addr → Option Obj} {N₀ : Addr → Prop} {env : Env} {vars : List Str} {ρ : LLoc} {W : Addr → Prop} {h h' : Heap} {Z : Addr → Prop}
theorem FrR.h0 (R : FrR X hs N₀ env vars ρ W h) : ∀ b o, X.x.h₀.get? b = some o → h.get? b = some o := fun b o e => R.hb b o (R.up b o e)
theorem store_dict {a : Addr} {m : Str → Option Value} (n : h.Ns a m) : ∃ o, h.get? a = some o ∧ isStore o = true := by
  obtain ⟨o, es, ep, e, d, _⟩ := n
  exact ⟨o, e, by unfold isStore; rw [d]⟩
theorem store_cell {a : Addr} {v : Option Value} (n : h.IsCell a v) : ∃ o, h.get? a = some o ∧ isStore o = true := by
  obtain ⟨o, e, d⟩ := n
  exact ⟨o, e, by unfold isStore; rw [d]⟩
noncomputable abbrev KeepZ (Z : Addr → Prop) (h h' : Heap) : Prop := ∀ b o, ¬ Z b → h.get? b = some o → h'.get? b = some o
theorem Rp.move {x : Cx} {v : V} {y : Value} (r : Rp x h v y) (k : KeepZ Z h h') (zm : ∀ b f s, h.get? b = some (methodObj f s) → ¬ Z b) : Rp x h' v y := by
  cases v <;> try exact r
  obtain ⟨b, e, g⟩ := r
  exact ⟨b, e, k b _ (zm _ _ _ g) g⟩
theorem Mr.move {x : Cx} {σ : M} {its : Array Value} {xs : List Int} (m : Mr x σ h) (k : KeepZ Z h h') (z0 : ∀ b o, x.h₀.get? b = some o → ¬ Z b) (zI : ¬ Z x.I) (zD : ¬ Z x.D) (zm : ∀ b f s, h.get? b = some (methodObj f s) → ¬ Z b)
    (l : PlainL h' x.L its) (ia : IntsAre its.toList xs) (z : xs.length < 2 ^ 62) : Mr x { σ with mem := xs } h' := by
  obtain ⟨mm, n, r, zz⟩ := m.ns
  exact ⟨fun b o e => k b o (z0 b o e) (m.stays b o e), k _ _ zI m.inst, ⟨mm, n.at fun o e => k _ o zD e, fun f => by rw [M.get_mem]; exact (r f).map fun v rv => rv.move k zm, zz⟩, ⟨its, l, ia⟩, z⟩
theorem VarAt.move {n : Str} {y : Value} (v : VarAt env h n y) (k : KeepZ Z h h') (zl : ¬ Z env.locals) (zc : ∀ n c, env.cells.lookup n = some c → ¬ Z c) : VarAt env h' n y := by
  rcases v with ⟨a, m, hm, e⟩ | ⟨a, c, hc, o, eo, d⟩
  · exact .inl ⟨a, m, hm.at' fun o e => k _ o zl e, e⟩
  · exact .inr ⟨a, c, hc, o, k _ o (zc n c hc) eo, d⟩
theorem FrR.upd (R : FrR X hs N₀ env vars ρ W h) (i : Nat) (ρ' : LLoc) (k : KeepZ Z h h') (zhs : ∀ b, Z b → hs b = none) (loc : ∃ m, h'.Ns env.locals m) (cel : ∀ n c, env.cells.lookup n = some c → ∃ v, h'.IsCell c v) (lst : Lists (nn N₀ W) h')
    (len : ρ'.length = vars.length) (old : ∀ j, j ≠ i → LLoc.at ρ' j = ρ.at j) (var : ∀ j nj y, j ≠ i → vars[j]? = some nj → VarAt env h nj y → VarAt env h' nj y)
    (val : ∀ j nj u y, j ≠ i → vars[j]? = some nj → ρ.at j = some u → VarAt env h nj y → RVar N₀ W h u y → RVar N₀ W h' u y)
    (mch : ∀ j nj σ mv I D L xs nm, j ≠ i → vars[j]? = some nj → ρ.at j = some (.mpu σ mv) → VarAt env h nj (.ref I) → Mch X hs env vars ρ h I D L xs nm σ mv → ∃ xs', Mch X hs env vars ρ' h' I D L xs' nm σ mv)
    (self : ∀ n v, vars[i]? = some n → LLoc.at ρ' i = some v → (∃ y, VarAt env h' n y ∧ RVar N₀ W h' v y) ∧ ∀ σ mv, v = .mpu σ mv → ∃ I D L xs nm, VarAt env h' n (.ref I) ∧ Mch X hs env vars ρ' h' I D L xs nm σ mv)
    (selfO : ∀ n u a, vars[i]? = some n → LLoc.at ρ' i = some u → Ow u = true → VarAt env h' n (.ref a) → ∀ j nj w, j ≠ i → vars[j]? = some nj → ρ.at j = some w → Ow w = true → ¬ VarAt env h nj (.ref a))
    (selfM : ∀ n σ mv I D, vars[i]? = some n → LLoc.at ρ' i = some (.mpu σ mv) → VarAt env h' n (.ref I) → h'.get? I = some (instObj X.x.C D) → ∀ j nj τ m J, j ≠ i → vars[j]? = some nj → ρ.at j = some (.mpu τ m) → VarAt env h nj (.ref J) → h.get? J ≠ some (instObj X.x.C D)) :
    FrR X hs N₀ env vars ρ' W h' := by
  have back : ∀ j nj u y, j ≠ i → vars[j]? = some nj → ρ.at j = some u → VarAt env h' nj y → VarAt env h nj y := fun j nj u y q hj hu v => by
    obtain ⟨y', b, _⟩ := R.rd.var j nj u hj hu
    exact (var j nj y' q hj b).unique v ▸ b
  have instB : ∀ j nj σ m J D, j ≠ i → vars[j]? = some nj → ρ.at j = some (.mpu σ m) → VarAt env h nj (.ref J) → h'.get? J = some (instObj X.x.C D) → h.get? J = some (instObj X.x.C D) := fun j nj σ m J D q hj hu v e => by
    obtain ⟨I, D', L, xs, nm, vI, M⟩ := R.rd.mach j nj σ m hj hu
    cases v.unique vI
    obtain ⟨xs', M'⟩ := mch j nj σ m J D' L xs nm q hj hu v M
    have e1 : h.get? J = some (instObj X.x.C D') := M.mr.inst
    have e2 : h'.get? J = some (instObj X.x.C D') := M'.mr.inst
    rw [e2] at e; rw [e1]; exact e
  refine ⟨⟨fun b o e => k b o (fun q => by have := R.up b o e; rw [zhs b q] at this; injection this) (R.rd.base b o e), lst, fun j nj u hj hu => ?_, fun j nj σ mv hj hu => ?_⟩, R.up, fun b o e => k b o (fun q => by rw [zhs b q] at e; injection e) (R.hb b o e), R.wnew, R.locN, loc, fun n c hc => ⟨(R.celN n c hc).1, cel n c hc⟩, ?_, ?_, len, R.n0⟩
  · by_cases q : j = i
    · subst q; exact (self nj u hj hu).1
    · rw [old j q] at hu
      obtain ⟨y, va, r⟩ := R.rd.var j nj u hj hu
      exact ⟨y, var j nj y q hj va, val j nj u y q hj hu va r⟩
  · by_cases q : j = i
    · subst q; exact (self nj _ hj hu).2 σ mv rfl
    · rw [old j q] at hu
      obtain ⟨I, D, L, xs, nm, va, M⟩ := R.rd.mach j nj σ mv hj hu
      obtain ⟨xs', M'⟩ := mch j nj σ mv I D L xs nm q hj hu va M
      exact ⟨I, D, L, xs', nm, var j nj _ q hj va, M'⟩
  · intro j1 j2 n1 n2 u v a h1 h2 h3 h4 o1 o2 h5 h6
    by_cases q1 : j1 = i <;> by_cases q2 : j2 = i
    · rw [q1, q2]
    · subst q1; rw [old j2 q2] at h4
      exact absurd (back j2 n2 _ _ q2 h2 h4 h6) (selfO n1 u a h1 h3 o1 h5 j2 n2 v q2 h2 h4 o2)
    · subst q2; rw [old j1 q1] at h3
      exact absurd (back j1 n1 _ _ q1 h1 h3 h5) (selfO n2 v a h2 h4 o2 h6 j1 n1 u q1 h1 h3 o1)
    · rw [old j1 q1] at h3; rw [old j2 q2] at h4
      exact R.ownD j1 j2 n1 n2 u v a h1 h2 h3 h4 o1 o2 (back j1 n1 _ _ q1 h1 h3 h5) (back j2 n2 _ _ q2 h2 h4 h6)
  · intro j1 j2 n1 n2 σ τ m n I J D h1 h2 h3 h4 h5 h6 h7 h8
    by_cases q1 : j1 = i <;> by_cases q2 : j2 = i
    · rw [q1, q2]
    · subst q1; rw [old j2 q2] at h4
      exact absurd (instB j2 n2 τ n J D q2 h2 h4 (back j2 n2 _ _ q2 h2 h4 h6) h8) (selfM n1 σ m I D h1 h3 h5 h7 j2 n2 τ n J q2 h2 h4 (back j2 n2 _ _ q2 h2 h4 h6))
    · subst q2; rw [old j1 q1] at h3
      exact absurd (instB j1 n1 σ m I D q1 h1 h3 (back j1 n1 _ _ q1 h1 h3 h5) h7) (selfM n2 τ n J D h2 h4 h6 h8 j1 n1 σ m I q1 h1 h3 (back j1 n1 _ _ q1 h1 h3 h5))
    · rw [old j1 q1] at h3; rw [old j2 q2] at h4
      have v1 := back j1 n1 _ _ q1 h1 h3 h5
      have v2 := back j2 n2 _ _ q2 h2 h4 h6
      exact R.mchD j1 j2 n1 n2 σ τ m n I J D h1 h2 h3 h4 v1 v2 (instB j1 n1 σ m I D q1 h1 h3 v1 h7) (instB j2 n2 τ n J D q2 h2 h4 v2 h8)
theorem nth_none : vars[vars.length]? = none := List.getElem?_eq_none (Nat.le_refl _)
theorem FrR.same (R : FrR X hs N₀ env vars ρ W h) (k : KeepZ Z h h') (zhs : ∀ b, Z b → hs b = none) (zl : ¬ Z env.locals) (zc : ∀ n c, env.cells.lookup n = some c → ¬ Z c) (zs : ∀ b o a n, h.get? b = some o → o.data = .seq a n → ¬ Z b)
    (zM : ∀ b f s, h.get? b = some (methodObj f s) → ¬ Z b) (zi : ∀ b C D, h.get? b = some (instObj C D) → ¬ Z b) (zd : ∀ b m, h.Ns b m → ¬ Z b) : FrR X hs N₀ env vars ρ W h' := by
  have ls : ∀ {a its}, PlainL h a its → PlainL h' a its := fun l => by obtain ⟨o, n, e, c, dn, d⟩ := l; exact ⟨o, n, k _ _ (zs _ _ _ _ e d) e, c, dn, d⟩
  have vm : ∀ {n y}, VarAt env h n y → VarAt env h' n y := fun v => v.move k zl zc
  refine R.upd vars.length ρ k zhs (by obtain ⟨m, n⟩ := R.locNs; exact ⟨m, n.at' fun o e => k _ o zl e⟩) (fun n c hc => by obtain ⟨_, v, o, e, d⟩ := R.celN n c hc; exact ⟨v, o, k _ _ (zc n c hc) e, d⟩) (fun a w => by obtain ⟨its, l⟩ := R.rd.lists a w; exact ⟨its, ls l⟩)
    R.len (fun _ _ => rfl) (fun _ _ _ _ _ v => vm v) (fun _ _ _ _ _ _ _ _ r => r.keepS (fun b o a n e d _ => k b o (zs b o a n e d) e) fun _ _ _ _ _ l => ls l) (fun j nj σ mv I D L xs nm _ _ _ _ M => ⟨xs, M.own, M.nam, vm M.vL, ?_, M.hD, M.d0, M.l0, M.Dl⟩)
    (fun n v hn => by rw [nth_none] at hn; injection hn) (fun n xs a hn => by rw [nth_none] at hn; injection hn) (fun n σ mv I D hn => by rw [nth_none] at hn; injection hn)
  obtain ⟨its, l, ia⟩ := M.mr.mem
  obtain ⟨m, n, _⟩ := M.mr.ns
  exact M.mr.move (xs := xs) k (fun b o e q => by have := R.up b o e; rw [zhs b q] at this; injection this) (zi _ _ _ M.mr.inst) (zd _ _ n.ns) zM (ls l) ia M.mr.sz
theorem FrR.grow (R : FrR X hs N₀ env vars ρ W h) (g : Grow h h') : FrR X hs N₀ env vars ρ W h' :=
  R.same (Z := fun _ => False) (fun b o _ e => g b o e) (fun _ q => q.elim) (fun q => q) (fun _ _ _ q => q) (fun _ _ _ _ _ _ q => q) (fun _ _ _ _ q => q) (fun _ _ _ _ q => q) (fun _ _ _ q => q)
theorem VarAt.down {n : Str} {y : Value} (R : FrR X hs N₀ env vars ρ W h) (g : Grow h h') {i : Nat} {v : LV} (hi : vars[i]? = some n) (hv : ρ.at i = some v) (a : VarAt env h' n y) : VarAt env h n y := by
  obtain ⟨y', b, _⟩ := R.rd.var i n v hi hv
  exact (b.grow g).unique a ▸ b
structure StoreR (hs : Addr → Option Obj) (env : Env) (n : Str) (y : Value) (h h' : Heap) : Prop where
  same : ∃ z o, h.get? z = some o ∧ isStore o = true ∧ hs z = none ∧ (z = env.locals ∨ ∃ v, o.data = .cell v) ∧ (∀ b o, b ≠ z → h.get? b = some o → h'.get? b = some o) ∧ ∃ o', h'.get? z = some o'
  var : ∀ nm y', nm ≠ n → VarAt env h nm y' → VarAt env h' nm y'
  self : VarAt env h' n y
  loc : ∃ m, h'.Ns env.locals m
  cel : ∀ n c, env.cells.lookup n = some c → ∃ v, h'.IsCell c v
theorem storeR_local (R : FrR X hs N₀ env vars ρ W h) {n : Str} {y : Value} {m : Str → Option Value} (hkk : env.kindOf n = some .local) (ns : h.Ns env.locals m) (ns' : h'.Ns env.locals (fun z => if z = n then some y else m z))
    (keep' : ∀ b o, b ≠ env.locals → h.get? b = some o → h'.get? b = some o) : StoreR hs env n y h h' := by
  obtain ⟨o, eo, so⟩ := store_dict ns
  have cne : ∀ c v, h.IsCell c v → h'.IsCell c v := fun c v hv => by
    obtain ⟨o1, e1, d1⟩ := hv
    obtain ⟨o2, es, ep, e2, d2, _⟩ := ns
    exact ⟨o1, keep' _ _ (fun q => by rw [q, e2] at e1; (injection e1 with e1; subst e1); rw [d1] at d2; injection d2) e1, d1⟩
  refine ⟨⟨env.locals, o, eo, so, R.locN, .inl rfl, keep', by obtain ⟨o', _, _, e, _⟩ := ns'; exact ⟨o', e⟩⟩, fun nm y' hne v => ?_, .inl ⟨hkk, _, ns', if_pos rfl⟩, ⟨_, ns'⟩, fun n' c' hc' => ?_⟩
  · rcases v with ⟨kk, m', hm', e⟩ | ⟨kk, c', hc', hv⟩
    · rw [ns_unique hm' ns] at e
      exact .inl ⟨kk, _, ns', by rw [if_neg hne]; exact e⟩
    · exact .inr ⟨kk, c', hc', cne c' _ hv⟩
  · obtain ⟨_, v, hv⟩ := R.celN n' c' hc'
    exact ⟨v, cne c' v hv⟩
theorem raw_store {k : LC} {A : Around} {s : Shared} {E' : Value → Shared → Prop} (EF : EnvF env k) (R : FrR X hs N₀ env k.vars ρ W s.heap) {n : Str} {y : Value} (hn : n ∈ k.vars) {Q : Unit → Shared → Prop}
    (hq : ∀ h' t', StoreR hs env n y s.heap h' → Q () { s with heap := h', toks := t' }) : wpAny (model X.x.prog X.x.w) A (storeName env n y) Q E' s := by
  obtain ⟨m, ns⟩ := R.locNs
  rcases EF.kinds n hn with kl | ⟨kc, c, hc⟩
  · have hp : (env.scope.kind == .class || (env.scope.kind == .module && env.locals != env.globals)) = false := by rw [EF.el.kind]; rfl
    exact wpAny_storeName_local kl ns (fun h' ns' sb => hq h' _ (storeR_local R kl ns ns' fun b o q e => by rw [sb.2 b q]; exact e)) hp
  · obtain ⟨hsc, v₀, hcell⟩ := R.celN n c hc
    refine wpAny_storeName_cell EF.el.kind kc hc hcell fun h' hc' sb => ?_
    have keep : ∀ b o, b ≠ c → s.heap.get? b = some o → h'.get? b = some o := fun b o q e => by rw [sb.2 b q]; exact e
    obtain ⟨o, eo, do'⟩ := id hcell
    have lne : env.locals ≠ c := fun q => by
      obtain ⟨o2, es, ep, e2, d2, _⟩ := ns
      rw [q, eo] at e2; (injection e2 with e2; subst e2); rw [do'] at d2; injection d2
    have ns' : h'.Ns env.locals m := ns.at' fun o e => keep _ o lne e
    refine hq h' _ ⟨⟨c, o, eo, by unfold isStore; rw [do'], hsc, .inr ⟨_, do'⟩, keep, by obtain ⟨o', e, _⟩ := hc'; exact ⟨o', e⟩⟩, fun nm y' hne v => ?_, .inr ⟨kc, c, hc, hc'⟩, ⟨m, ns'⟩, fun n' c' hc'' => ?_⟩
    · rcases v with ⟨kk, m', hm', e⟩ | ⟨kk, c', hc'', hv⟩
      · rw [ns_unique hm' ns] at e
        exact .inl ⟨kk, m, ns', e⟩
      · have : c' ≠ c := fun q => hne (name_of_addr EF.apart (mem_of_lookup hc'') (q ▸ mem_of_lookup hc))
        obtain ⟨o1, e1, d1⟩ := hv
        exact .inr ⟨kk, c', hc'', ⟨o1, keep _ _ this e1, d1⟩⟩
    · by_cases q : c' = c
      · subst q; exact ⟨_, hc'⟩
      · obtain ⟨_, v, o1, e1, d1⟩ := R.celN n' c' hc''
        exact ⟨v, o1, keep _ _ q e1, d1⟩
theorem LLoc.at_ne {i j : Nat} {o : Option LV} (q : j ≠ i) : LLoc.at (ρ.set i o) j = ρ.at j := by
  unfold LLoc.at
  rw [List.getElem?_set, if_neg (Ne.symm q)]
theorem LLoc.at_self {i : Nat} {o : Option LV} (hi : i < ρ.length) : LLoc.at (ρ.set i o) i = o := by
  unfold LLoc.at
  rw [List.getElem?_set, if_pos rfl, if_pos hi]; rfl
theorem setL_of {i : Nat} {v : LV} {ρ' : LLoc} (h : setL ρ i v = some ρ') : i < ρ.length ∧ ρ' = ρ.set i (some v) := by
  obtain ⟨q, e⟩ := ite_of h
  (injection e with e; subst e)
  exact ⟨q, rfl⟩
theorem StoreR.evo {n : Str} {y : Value} (S : StoreR hs env n y h h') : Evo (fun _ => False) h h' := fun b o e _ st => by
  obtain ⟨z, oz, ez, sz, _, _, k, _⟩ := S.same
  exact k b o (fun q => by rw [q, ez] at e; (injection e with e; subst e); rw [sz] at st; injection st) e
theorem Evo.seqk0 {N : Addr → Prop} (e : Evo (fun _ => False) h h') : SeqK N h h' := fun b o a n eo d _ => e b o eo (fun q => q) (by unfold isStore; rw [d])
theorem RVar.evo0 {v : LV} {y : Value} (r : RVar N₀ W h v y) (k : Evo (fun _ => False) h h') : RVar N₀ W h' v y :=
  r.keepS k.seqk0 fun a its _ _ _ l => by obtain ⟨o, n, e, c, dn, d⟩ := l; exact ⟨o, n, k a o e (fun q => q) (by unfold isStore; rw [d]), c, dn, d⟩
theorem free_of {i : Nat} (hf : free ρ i = true) : ∀ j σ, ρ.at j ≠ some (.mpu σ i) := fun j σ q => by
  unfold LLoc.at at q
  cases e : ρ[j]? with
  | none => rw [e] at q; injection q
  | some o =>
    rw [e] at q
    obtain rfl : o = some (.mpu σ i) := q
    have := List.all_eq_true.mp hf _ (List.mem_of_getElem? e)
    have h2 : (!Nat.beq i i) = true := this
    rw [Nat.beq_refl] at h2
    injection h2
theorem names_ne {i j : Nat} {n m : Str} (nd : vars.Nodup) (hi : vars[i]? = some n) (hj : vars[j]? = some m) (e : j ≠ i) : m ≠ n := by
  rintro rfl
  obtain ⟨a1, a2⟩ := List.getElem?_eq_some_iff.mp hi
  obtain ⟨b1, b2⟩ := List.getElem?_eq_some_iff.mp hj
  have nd := List.pairwise_iff_getElem.mp nd
  rcases Nat.lt_or_gt_of_ne e with q | q
  · exact nd j i b1 a1 q (b2.trans a2.symm)
  · exact nd i j a1 b1 q (a2.trans b2.symm)
noncomputable def NewMach (X : LX) (hs : Addr → Option Obj) (env : Env) (vars : List Str) (ρ : LLoc) (h : Heap) (i : Nat) (y : Value) (σ : M) (mv : Nat) : Prop :=
  mv ≠ i ∧ ∃ I D L xs nm, y = .ref I ∧ Mch X hs env vars ρ h I D L xs nm σ mv ∧ ∀ j nj τ m J, j ≠ i → vars[j]? = some nj → ρ.at j = some (.mpu τ m) → VarAt env h nj (.ref J) → h.get? J ≠ some (instObj X.x.C D)
theorem FrR.stored (R : FrR X hs N₀ env vars ρ W h) (nd : vars.Nodup) {i : Nat} {n : Str} {v : LV} {y : Value} (S : StoreR hs env n y h h') (hi : vars[i]? = some n) (hf : free ρ i = true) (rv : RVar N₀ W h' v y)
    (ho : ∀ a, Ow v = true → y = .ref a → ∀ j nj w, j ≠ i → vars[j]? = some nj → ρ.at j = some w → Ow w = true → ¬ VarAt env h nj (.ref a)) (hm : ∀ σ mv, v = .mpu σ mv → NewMach X hs env vars ρ h i y σ mv) : FrR X hs N₀ env vars (ρ.set i (some v)) W h' := by
  have fr := free_of hf
  have hlt : i < ρ.length := by rw [R.len]; exact (List.getElem?_eq_some_iff.mp hi).1
  have ev := S.evo
  obtain ⟨z, oz, ez, sz, hz, zk, keep, _⟩ := S.same
  have ls : ∀ {a its}, PlainL h a its → PlainL h' a its := fun l => by obtain ⟨o, n, e, c, dn, d⟩ := l; exact ⟨o, n, ev _ o e (fun q => q) (by unfold isStore; rw [d]), c, dn, d⟩
  have vm : ∀ j nj y', j ≠ i → vars[j]? = some nj → VarAt env h nj y' → VarAt env h' nj y' := fun j nj y' q hj a => S.var nj y' (names_ne nd hi hj q) a
  have mo : ∀ {I D L xs nm σ mv}, mv ≠ i → Mch X hs env vars ρ h I D L xs nm σ mv → Mch X hs env vars (ρ.set i (some v)) h' I D L xs nm σ mv := fun {I D L xs nm σ mv} q M => by
    obtain ⟨its, l, ia⟩ := M.mr.mem
    obtain ⟨mm, ns, _⟩ := M.mr.ns
    have st : ∀ {b o}, h.get? b = some o → isStore o = false → b ≠ z := fun e s q => by rw [q, ez] at e; (injection e with e; subst e); rw [sz] at s; injection s
    refine ⟨by rw [LLoc.at_ne q]; exact M.own, M.nam, vm mv nm _ q M.nam M.vL, M.mr.move (Z := fun b => b = z) (xs := xs) keep (fun b o e q => ?_) (st M.mr.inst rfl) (fun q => ?_) (fun b f s e => st e rfl) (ls l) ia M.mr.sz, M.hD, M.d0, M.l0, M.Dl⟩
    · have := R.up b o e; rw [q, hz] at this; injection this
    · obtain ⟨o2, es, ep, e2, d2, _⟩ := ns.ns
      have q : D = z := q
      rcases zk with q' | ⟨u, d⟩
      · exact M.Dl (q.trans q')
      · have e2 : h.get? D = some o2 := e2
        rw [q, ez] at e2; (injection e2 with e2; subst e2); rw [d] at d2; injection d2
  refine R.upd (Z := fun b => b = z) i _ keep (fun b q => q ▸ hz) S.loc S.cel (fun a w => by obtain ⟨its, l⟩ := R.rd.lists a w; exact ⟨its, ls l⟩) (by rw [List.length_set]; exact R.len) (fun j q => LLoc.at_ne q) vm (fun _ _ _ _ _ _ _ _ r => r.evo0 ev)
    (fun j nj σ mv I D L xs nm q hj hu va M => ⟨xs, mo (fun e => fr j σ (e ▸ hu)) M⟩) (fun n' u hn hu => ?_) (fun n' u a hn hu ow va => ?_) (fun n' σ mv I D hn hu va e => ?_)
  all_goals (rw [hi] at hn; (injection hn with hn; subst hn); rw [LLoc.at_self hlt] at hu; (injection hu with hu; subst hu))
  · refine ⟨⟨y, S.self, rv⟩, fun σ mv e => ?_⟩
    obtain ⟨q, I, D, L, xs, nm, rfl, M, _⟩ := hm σ mv e
    exact ⟨I, D, L, xs, nm, S.self, mo q M⟩
  · exact ho a ow (S.self.unique va)
  · obtain ⟨q, I', D', L, xs, nm, e', M, no⟩ := hm σ mv rfl
    have M' := mo q M
    rw [e'] at S
    cases S.self.unique va
    have e2 : h'.get? I = some (instObj X.x.C D') := M'.mr.inst
    rw [e2] at e
    obtain rfl : D' = D := by injection e with e; injection e with _ e; injection e
    exact no
end
end Mine

end
section
open PySem PySem.W PyProof.Rows
set_option maxRecDepth 100000
set_option maxHeartbeats 1000000
set_option linter.unusedSimpArgs false
set_option linter.unusedVariables false
namespace Mine
structure Aft (X : LX) (hs : Addr → Option Obj) (N₀ : Addr → Prop) (env : Env) (vars : List Str) (W : Addr → Prop) (s : Shared) (ρ' : LLoc) (W' : Addr → Prop) (s' : Shared) : Prop where
  fr : FrR X hs N₀ env vars ρ' W' s'.heap
  new : ∀ a, W' a → W a ∨ s.heap.get? a = none
  evo : Evo W s.heap s'.heap
  live : ∀ b o, s.heap.get? b = some o → ∃ o', s'.heap.get? b = some o'
  ks : Ks s s'
section
variable {X : LX} {hs : Addr → Option Obj} {N₀ : Addr → Prop} {env : Env} {k : LC} {ρ ρ' ρ'' : LLoc} {W W' W'' : Addr → Prop} {s s' s'' : Shared} {A : Around} {E' : Value → Shared → Prop}
theorem Evo.mono {h h' : Heap} (e : Evo W h h') (q : ∀ a, W a → W' a) : Evo W' h h' := fun b o e' n st => e b o e' (fun w => n (q b w)) st
theorem Aft.trans (a : Aft X hs N₀ env k.vars W s ρ' W' s') (b : Aft X hs N₀ env k.vars W' s' ρ'' W'' s'') : Aft X hs N₀ env k.vars W s ρ'' W'' s'' := by
  refine ⟨b.fr, fun x w => ?_, fun x o e n st => ?_, fun x o e => ?_, a.ks.trans b.ks⟩
  · rcases b.new x w with q | q
    · exact a.new x q
    · right
      cases e : s.heap.get? x with
      | none => rfl
      | some o => obtain ⟨o', e'⟩ := a.live x o e; rw [q] at e'; injection e'
  · refine b.evo x o (a.evo x o e n st) (fun w => ?_) st
    rcases a.new x w with q | q
    · exact n q
    · rw [q] at e; injection e
  · obtain ⟨o', e'⟩ := a.live x o e; exact b.live x o' e'
theorem Aft.of_kg (R : FrR X hs N₀ env k.vars ρ W s.heap) (g : Kg s s') : Aft X hs N₀ env k.vars W s ρ W s' :=
  ⟨R.grow g.grow, fun _ w => .inl w, .of_grow g.grow, fun b o e => ⟨o, g.grow b o e⟩, g.ks⟩
theorem Aft.refl (R : FrR X hs N₀ env k.vars ρ W s.heap) : Aft X hs N₀ env k.vars W s ρ W s := .of_kg R .refl
theorem Aft.val (a : Aft X hs N₀ env k.vars W s ρ' W' s') (R : FrR X hs N₀ env k.vars ρ W s.heap) {v : LV} {y : Value} (r : RV (nn N₀ W) s.heap v y) : RV (nn N₀ W') s'.heap v y := by
  refine r.keep2 (a.evo.seqk (fun b w => .inr w) fun b w => R.rd.lists b (.inr w)) fun b ⟨o, e⟩ q => ?_
  rcases q with q | q
  · exact .inl q
  · rcases a.new b q with z | z
    · exact .inr z
    · rw [z] at e; injection e
theorem stored_aft (EF : EnvF env k) (R : FrR X hs N₀ env k.vars ρ W s.heap) {i : Nat} {n : Str} {v : LV} {y : Value} (hi : k.vars[i]? = some n) (hf : free ρ i = true) (hset : setL ρ i v = some ρ') (rv : RVar N₀ W s.heap v y)
    (ho : ∀ a, Ow v = true → y = .ref a → ∀ j nj w, j ≠ i → k.vars[j]? = some nj → ρ.at j = some w → Ow w = true → ¬ VarAt env s.heap nj (.ref a)) (hm : ∀ σ mv, v = .mpu σ mv → NewMach X hs env k.vars ρ s.heap i y σ mv) {Q : Unit → Shared → Prop}
    (h : ∀ s', Aft X hs N₀ env k.vars W s ρ' W s' → Q () s') : wpAny (model X.x.prog X.x.w) A (storeName env n y) Q E' s := by
  obtain ⟨hlt, rfl⟩ := setL_of hset
  refine raw_store EF R (List.mem_of_getElem? hi) fun h' t' S => h _ ⟨R.stored EF.nodup S hi hf (rv.evo0 S.evo) ho hm, fun _ w => .inl w, S.evo.mono fun _ q => q.elim, fun b o e => ?_, ⟨h', t', rfl⟩⟩
  obtain ⟨z, oz, ez, sz, hz, zk, keep, lv⟩ := S.same
  by_cases q : b = z
  · subst q; exact lv
  · exact ⟨o, keep b o q e⟩
theorem putV_of {i : Nat} {v : LV} (h : putV ρ i v = some ρ') : stable v = true ∧ free ρ i = true ∧ setL ρ i v = some ρ' := by
  obtain ⟨q, h⟩ := cond_of h
  refine and_el q fun a b => ?_
  exact ⟨a, b, h⟩
theorem store_val (EF : EnvF env k) (R : FrR X hs N₀ env k.vars ρ W s.heap) {i : Nat} {n : Str} {v : LV} {y : Value} (hi : k.vars[i]? = some n) (hp : putV ρ i v = some ρ') (r : RV (nn N₀ W) s.heap v y) {Q : Unit → Shared → Prop}
    (h : ∀ s', Aft X hs N₀ env k.vars W s ρ' W s' → Q () s') : wpAny (model X.x.prog X.x.w) A (storeName env n y) Q E' s := by
  obtain ⟨st, hf, hset⟩ := putV_of hp
  exact stored_aft EF R hi hf hset r.var (fun a o => by cases v <;> first | exact absurd o Bool.false_ne_true | exact absurd st Bool.false_ne_true) (fun σ mv q => by rw [q] at st; injection st) h
theorem FrR.addW (R : FrR X hs N₀ env k.vars ρ W s.heap) (g : Kg s s') {a : Addr} (na : s.heap.get? a = none) {its : Array Value} (l : PlainL s'.heap a its) : Aft X hs N₀ env k.vars W s ρ (fun b => W b ∨ b = a) s' := by
  have gr := g.grow
  have R' := R.grow gr
  have hsa : hs a = none := by
    cases e : hs a with
    | none => rfl
    | some o => have := R.hb a o e; rw [na] at this; injection this
  have wk : ∀ {v : LV} {y : Value}, RV (nn N₀ W) s.heap v y → RV (nn N₀ fun b => W b ∨ b = a) s'.heap v y := fun r => by
    refine RV.grow (r.weak fun b ⟨o, e⟩ q => ?_) gr
    rcases q with q | q | q
    · exact .inl q
    · exact .inr q
    · rw [q, na] at e; injection e
  refine ⟨⟨⟨R'.rd.base, fun b w => ?_, fun i n v hi hv => ?_, R'.rd.mach⟩, R'.up, R'.hb, fun b w => ?_, R'.locN, R'.locNs, R'.celN, R'.ownD, R'.mchD, R'.len, R'.n0⟩, fun b w => ?_, .of_grow gr, fun b o e => ⟨o, gr b o e⟩, g.ks⟩
  · rcases w with w | w | w
    · exact R'.rd.lists b (.inl w)
    · exact R'.rd.lists b (.inr w)
    · subst w; exact ⟨its, l⟩
  · obtain ⟨y, va, r⟩ := R.rd.var i n v hi hv
    refine ⟨y, va.grow gr, ?_⟩
    cases v with
    | own xs => obtain ⟨b, its', e, w, l', ia⟩ := r.grow gr; exact ⟨b, its', e, .inl w, l', ia⟩
    | ownR xs =>
      obtain ⟨b, its', e, w, l', p, z⟩ := r
      refine ⟨b, its', e, .inl w, l'.keeps gr, p.mono fun _ _ q => RT.grow (q.weak fun b ⟨o, e⟩ q => ?_) gr, z⟩
      rcases q with q | q | q
      · exact .inl q
      · exact .inr q
      · rw [q, na] at e; injection e
    | mpu _ _ => trivial
    | «at» u => exact (wk (v := .at u) r).var
    | tup xs => exact (wk (v := .tup xs) r).var
    | rows xs => exact (wk (v := .rows xs) r).var
    | lists xs => exact (wk (v := .lists xs) r).var
  · rcases w with w | w
    · exact R.wnew b w
    · subst w; exact hsa
  · rcases w with w | w
    · exact .inl w
    · subst w; exact .inr na
theorem store_own (EF : EnvF env k) (R : FrR X hs N₀ env k.vars ρ W s.heap) (g : Kg s s') {i : Nat} {n : Str} {xs : List Int} {y : Value} (hi : k.vars[i]? = some n) (hf : free ρ i = true) (hset : setL ρ i (.own xs) = some ρ') {N : Addr → Prop} (r : RV N s'.heap (.ints xs) y) (nw : NewP s.heap s'.heap y) {Q : Unit → Shared → Prop}
    (h : ∀ W' s'', Aft X hs N₀ env k.vars W s ρ' W' s'' → Q () s'') : wpAny (model X.x.prog X.x.w) A (storeName env n y) Q E' s' := by
  obtain ⟨a, its, rfl, _, l, ia, z⟩ := r
  have l := plain_of l (nw a rfl).2
  have na := (nw a rfl).1
  have A1 := R.addW g na l
  refine stored_aft EF A1.fr hi hf hset ⟨a, its, rfl, .inr rfl, l, ia, z⟩ (fun b _ e2 j nj w _ hj hv ow va => ?_) (fun _ _ q => by injection q) fun s'' A2 => h _ s'' (A1.trans A2)
  (injection e2 with e2; subst e2)
  have va' := VarAt.down R g.grow hj hv va
  obtain ⟨y', vb, r⟩ := R.rd.var j nj _ hj hv
  obtain ⟨b', its', e, w, o, _, eo, _⟩ := r.ow ow
  have := va'.unique vb
  rw [e] at this; (injection this with this; subst this)
  rw [na] at eo; injection eo
theorem own_move {Z : Addr → Prop} (R : FrR X hs N₀ env k.vars ρ W s.heap) {i : Nat} {n : Str} {xs xs' : List Int} {a : Addr} {its' : Array Value} {h' : Heap} (hi : k.vars[i]? = some n) (hv : ρ.at i = some (.own xs)) (va : VarAt env s.heap n (.ref a))
    (l' : PlainL h' a its') (ia : IntsAre its'.toList xs') (z : xs'.length ≤ lim) (keep : KeepZ (fun b => b = a ∨ Z b) s.heap h') (zh : ∀ b, Z b → hs b = none) (zl : ¬ Z env.locals) (zc : ∀ n c, env.cells.lookup n = some c → ¬ Z c) (zs : ∀ b o, s.heap.get? b = some o → isStore o = false → ¬ Z b)
    (zd : ∀ j nj σ mv I D L xs nm, k.vars[j]? = some nj → ρ.at j = some (.mpu σ mv) → VarAt env s.heap nj (.ref I) → Mch X hs env k.vars ρ s.heap I D L xs nm σ mv → ¬ Z D) : FrR X hs N₀ env k.vars (ρ.set i (some (.own xs'))) W h' := by
  have hlt : i < ρ.length := by rw [R.len]; exact (List.getElem?_eq_some_iff.mp hi).1
  obtain ⟨y, vb, a', its, e, w, l, i0, z0⟩ := R.rd.var i n _ hi hv
  have := va.unique vb
  rw [e] at this; (injection this with this; subst this)
  obtain ⟨oa, ea, sa, ca, na, da⟩ := list_store l.isList
  have nst : ∀ {b o}, s.heap.get? b = some o → isStore o = true → b ≠ a := fun e st q => by rw [q, ea] at e; (injection e with e; subst e); rw [sa] at st; injection st
  have nl : ∀ m, s.heap.Ns env.locals m → ¬ (env.locals = a ∨ Z env.locals) := fun m hm q => by obtain ⟨o, eo, so⟩ := store_dict hm; rcases q with q | q; exact nst eo so q; exact zl q
  have nc : ∀ n c, env.cells.lookup n = some c → ¬ (c = a ∨ Z c) := fun n c hc q => by
    obtain ⟨_, v, hcell⟩ := R.celN n c hc
    obtain ⟨o, eo, so⟩ := store_cell hcell
    rcases q with q | q
    · exact nst eo so q
    · exact zc n c hc q
  have hl : hs a = none := R.wnew a w
  have zh' : ∀ b, (b = a ∨ Z b) → hs b = none := fun b q => by rcases q with q | q; exact q ▸ hl; exact zh b q
  have ls : ∀ {b its}, b ≠ a → PlainL s.heap b its → PlainL h' b its := fun q l => by obtain ⟨o, n, e, c, dn, d⟩ := l; exact ⟨o, n, keep _ o (fun z => by rcases z with z | z; exact q z; exact zs _ _ e (by unfold isStore; rw [d]) z) e, c, dn, d⟩
  obtain ⟨ml, nsl⟩ := R.locNs
  have nl := nl ml nsl
  have vm : ∀ nj y, VarAt env s.heap nj y → VarAt env h' nj y := fun nj y v => v.move keep nl nc
  have sq : SeqK (nn N₀ W) s.heap h' := fun b o s n e d q => keep b o (fun z => by
    rcases z with z | z
    · rw [z, ea] at e; (injection e with e; subst e); exact q ca (.inr (z ▸ w))
    · exact zs _ _ e (by unfold isStore; rw [d]) z) e
  refine R.upd (Z := fun b => b = a ∨ Z b) i _ keep zh' ⟨ml, nsl.at' fun o e => keep _ o nl e⟩ (fun n c hc => by obtain ⟨_, v, o, e, d⟩ := R.celN n c hc; exact ⟨v, o, keep _ _ (nc n c hc) e, d⟩)
    (fun b w => ?_) (by rw [List.length_set]; exact R.len) (fun j q => LLoc.at_ne q) (fun _ nj y _ _ v => vm nj y v) (fun j nj u y q hj hu va' r => r.keepS sq fun b its ow e _ l => ?_)
    (fun j nj σ mv I D L ys nm q hj hu vI M => ?_) (fun n' u hn hu => ?_) (fun n' u b hn hu _ vb' j nj w' q hj hv' ow => ?_) (fun n' σ mv I D hn hu => by rw [LLoc.at_self hlt] at hu; cases hu)
  · by_cases q : b = a
    · subst q; exact ⟨its', l'⟩
    · obtain ⟨its2, l2⟩ := R.rd.lists b w; exact ⟨its2, ls q l2⟩
  · subst e
    exact ls (fun z => q (R.ownD j i nj n _ _ a hj hi hu hv ow rfl (z ▸ va') va)) l
  · obtain ⟨mm, ns, _⟩ := M.mr.ns
    have st : ∀ {b o}, s.heap.get? b = some o → isStore o = false → o.cls ≠ .type "list" → ¬ (b = a ∨ Z b) := fun e s c q => by
      rcases q with q | q
      · rw [q, ea] at e; (injection e with e; subst e); exact c ca
      · exact zs _ _ e s q
    have nmeth : ∀ b f s', s.heap.get? b = some (methodObj f s') → ¬ (b = a ∨ Z b) := fun b f s' e => st e rfl (fun q => by injection q with z; exact absurd z (by decide))
    have nI : ¬ (I = a ∨ Z I) := fun q => by
      rcases q with q | q
      · have e : s.heap.get? I = _ := M.mr.inst
        rw [q, ea] at e; (injection e with e; subst e); injection da
      · exact zs _ _ M.mr.inst rfl q
    have nD : ¬ (D = a ∨ Z D) := fun q => by
      rcases q with q | q
      · obtain ⟨o, eo, so⟩ := store_dict ns.ns; exact nst eo so q
      · exact zd j nj σ mv I D L ys nm hj hu vI M q
    have n0 : ∀ b o, X.x.h₀.get? b = some o → ¬ (b = a ∨ Z b) := fun b o e q => by have := R.up b o e; rw [zh' b q] at this; injection this
    by_cases q2 : mv = i
    · subst q2
      have := M.own; rw [hv] at this; cases this
      have := M.nam; rw [hi] at this; (injection this with this; subst this)
      cases va.unique M.vL
      exact ⟨xs', LLoc.at_self hlt, hi, vm _ _ M.vL, M.mr.move keep n0 nI nD nmeth l' ia (Nat.lt_of_le_of_lt z (by decide)), M.hD, M.d0, M.l0, M.Dl⟩
    · obtain ⟨itL, lL, iL⟩ := M.mr.mem
      exact ⟨ys, by rw [LLoc.at_ne q2]; exact M.own, M.nam, vm _ _ M.vL, M.mr.move keep n0 nI nD nmeth (ls (fun z => q2 (R.ownD mv i nm n _ _ a M.nam hi M.own hv rfl rfl (z ▸ M.vL) va)) lL) iL M.mr.sz, M.hD, M.d0, M.l0, M.Dl⟩
  · rw [hi] at hn; (injection hn with hn; subst hn)
    rw [LLoc.at_self hlt] at hu; (injection hu with hu; subst hu)
    exact ⟨⟨.ref a, vm _ _ va, a, its', rfl, w, l', ia, z⟩, fun _ _ e => nomatch e⟩
  · rw [hi] at hn; (injection hn with hn; subst hn)
    cases (vm _ _ va).unique vb'
    exact fun v => q (R.ownD j i nj n _ _ a hj hi hv' hv ow rfl v va)
theorem own_upd (R : FrR X hs N₀ env k.vars ρ W s.heap) (EF : EnvF env k) {i : Nat} {n : Str} {xs xs' : List Int} {a : Addr} {its' : Array Value} {h' : Heap} {t' : Nat} (hi : k.vars[i]? = some n) (hv : ρ.at i = some (.own xs)) (va : VarAt env s.heap n (.ref a))
    (l' : PlainL h' a its') (ia : IntsAre its'.toList xs') (z : xs'.length ≤ lim) (sb : Heap.SameBut a s.heap h') (hset : setL ρ i (.own xs') = some ρ') : Aft X hs N₀ env k.vars W s ρ' W { s with heap := h', toks := t' } := by
  refine Classical.byContradiction fun hHid => ?_
  obtain ⟨hlt, rfl⟩ := setL_of hset
  obtain ⟨y, vb, a', its, e, w, l, _⟩ := R.rd.var i n _ hi hv
  have := va.unique vb
  refine hHid ?_
  clear hHid
  rw [e] at this; (injection this with this; subst this)
  have keep : ∀ b o, b ≠ a → s.heap.get? b = some o → h'.get? b = some o := fun b o q e => by rw [sb.2 b q]; exact e
  refine ⟨own_move (Z := fun _ => False) R hi hv va l' ia z (fun b o q => keep b o fun z => q (.inl z)) (fun _ q => q.elim) (fun q => q) (fun _ _ _ q => q) (fun _ _ _ _ q => q) (fun _ _ _ _ _ _ _ _ _ _ _ _ _ q => q), fun _ w => .inl w, fun b o e n _ => keep b o (fun q => n (q ▸ w)) e, fun b o e => ?_, ⟨h', t', rfl⟩⟩
  by_cases q : b = a
  · subst q; obtain ⟨o', _, e', _⟩ := l'; exact ⟨o', e'⟩
  · exact ⟨o, keep b o q e⟩
end
end Mine

end
section
open PySem PySem.W PyProof.Rows
set_option maxRecDepth 100000
set_option maxHeartbeats 1000000
set_option linter.unusedSimpArgs false
set_option linter.unusedVariables false
set_option linter.unusedSectionVars false
namespace Mine
section
variable {X : LX} {hs : Addr → Option Obj} {N₀ : Addr → Prop} {env : Env} {k : LC} {ρ ρ' ρ'' : LLoc} {W W' W'' : Addr → Prop} {s s' s'' : Shared} {A : Around} {E' : Value → Shared → Prop}
theorem own_moveR {Z : Addr → Prop} (R : FrR X hs N₀ env k.vars ρ W s.heap) {i : Nat} {n : Str} {xs xs' : List (List At)} {a : Addr} {its' : Array Value} {h' : Heap} (hi : k.vars[i]? = some n) (hv : ρ.at i = some (.ownR xs)) (va : VarAt env s.heap n (.ref a))
    (l' : PlainL h' a its') (r' : W a → RVar N₀ W h' (.ownR xs') (.ref a)) (keep : KeepZ (fun b => b = a ∨ Z b) s.heap h') (zh : ∀ b, Z b → hs b = none) (zl : ¬ Z env.locals) (zc : ∀ n c, env.cells.lookup n = some c → ¬ Z c) (zs : ∀ b o, s.heap.get? b = some o → isStore o = false → ¬ Z b)
    (zd : ∀ j nj σ mv I D L xs nm, k.vars[j]? = some nj → ρ.at j = some (.mpu σ mv) → VarAt env s.heap nj (.ref I) → Mch X hs env k.vars ρ s.heap I D L xs nm σ mv → ¬ Z D) : FrR X hs N₀ env k.vars (ρ.set i (some (.ownR xs'))) W h' := by
  have hlt : i < ρ.length := by rw [R.len]; exact (List.getElem?_eq_some_iff.mp hi).1
  obtain ⟨y, vb, a', its, e, w, l, i0, z0⟩ := R.rd.var i n _ hi hv
  have := va.unique vb
  rw [e] at this; (injection this with this; subst this)
  obtain ⟨oa, ea, sa, ca, na, da⟩ := list_store l.isList
  have nst : ∀ {b o}, s.heap.get? b = some o → isStore o = true → b ≠ a := fun e st q => by rw [q, ea] at e; (injection e with e; subst e); rw [sa] at st; injection st
  have nl : ∀ m, s.heap.Ns env.locals m → ¬ (env.locals = a ∨ Z env.locals) := fun m hm q => by obtain ⟨o, eo, so⟩ := store_dict hm; rcases q with q | q; exact nst eo so q; exact zl q
  have nc : ∀ n c, env.cells.lookup n = some c → ¬ (c = a ∨ Z c) := fun n c hc q => by
    obtain ⟨_, v, hcell⟩ := R.celN n c hc
    obtain ⟨o, eo, so⟩ := store_cell hcell
    rcases q with q | q
    · exact nst eo so q
    · exact zc n c hc q
  have hl : hs a = none := R.wnew a w
  have zh' : ∀ b, (b = a ∨ Z b) → hs b = none := fun b q => by rcases q with q | q; exact q ▸ hl; exact zh b q
  have ls : ∀ {b its}, b ≠ a → PlainL s.heap b its → PlainL h' b its := fun q l => by obtain ⟨o, n, e, c, dn, d⟩ := l; exact ⟨o, n, keep _ o (fun z => by rcases z with z | z; exact q z; exact zs _ _ e (by unfold isStore; rw [d]) z) e, c, dn, d⟩
  obtain ⟨ml, nsl⟩ := R.locNs
  have nl := nl ml nsl
  have vm : ∀ nj y, VarAt env s.heap nj y → VarAt env h' nj y := fun nj y v => v.move keep nl nc
  have sq : SeqK (nn N₀ W) s.heap h' := fun b o s n e d q => keep b o (fun z => by
    rcases z with z | z
    · rw [z, ea] at e; (injection e with e; subst e); exact q ca (.inr (z ▸ w))
    · exact zs _ _ e (by unfold isStore; rw [d]) z) e
  refine R.upd (Z := fun b => b = a ∨ Z b) i _ keep zh' ⟨ml, nsl.at' fun o e => keep _ o nl e⟩ (fun n c hc => by obtain ⟨_, v, o, e, d⟩ := R.celN n c hc; exact ⟨v, o, keep _ _ (nc n c hc) e, d⟩)
    (fun b w => ?_) (by rw [List.length_set]; exact R.len) (fun j q => LLoc.at_ne q) (fun _ nj y _ _ v => vm nj y v) (fun j nj u y q hj hu va' r => r.keepS sq fun b its ow e _ l => ?_)
    (fun j nj σ mv I D L ys nm q hj hu vI M => ?_) (fun n' u hn hu => ?_) (fun n' u b hn hu _ vb' j nj w' q hj hv' ow => ?_) (fun n' σ mv I D hn hu => by rw [LLoc.at_self hlt] at hu; cases hu)
  · by_cases q : b = a
    · subst q; exact ⟨its', l'⟩
    · obtain ⟨its2, l2⟩ := R.rd.lists b w; exact ⟨its2, ls q l2⟩
  · subst e
    exact ls (fun z => q (R.ownD j i nj n _ _ a hj hi hu hv ow rfl (z ▸ va') va)) l
  · obtain ⟨mm, ns, _⟩ := M.mr.ns
    have st : ∀ {b o}, s.heap.get? b = some o → isStore o = false → o.cls ≠ .type "list" → ¬ (b = a ∨ Z b) := fun e s c q => by
      rcases q with q | q
      · rw [q, ea] at e; (injection e with e; subst e); exact c ca
      · exact zs _ _ e s q
    have nmeth : ∀ b f s', s.heap.get? b = some (methodObj f s') → ¬ (b = a ∨ Z b) := fun b f s' e => st e rfl (fun q => by injection q with z; exact absurd z (by decide))
    have nI : ¬ (I = a ∨ Z I) := fun q => by
      rcases q with q | q
      · have e : s.heap.get? I = _ := M.mr.inst
        rw [q, ea] at e; (injection e with e; subst e); injection da
      · exact zs _ _ M.mr.inst rfl q
    have nD : ¬ (D = a ∨ Z D) := fun q => by
      rcases q with q | q
      · obtain ⟨o, eo, so⟩ := store_dict ns.ns; exact nst eo so q
      · exact zd j nj σ mv I D L ys nm hj hu vI M q
    have n0 : ∀ b o, X.x.h₀.get? b = some o → ¬ (b = a ∨ Z b) := fun b o e q => by have := R.up b o e; rw [zh' b q] at this; injection this
    by_cases q2 : mv = i
    · subst q2
      have := M.own; rw [hv] at this; cases this
    · obtain ⟨itL, lL, iL⟩ := M.mr.mem
      exact ⟨ys, by rw [LLoc.at_ne q2]; exact M.own, M.nam, vm _ _ M.vL, M.mr.move keep n0 nI nD nmeth (ls (fun z => q2 (R.ownD mv i nm n _ _ a M.nam hi M.own hv rfl rfl (z ▸ M.vL) va)) lL) iL M.mr.sz, M.hD, M.d0, M.l0, M.Dl⟩
  · rw [hi] at hn; (injection hn with hn; subst hn)
    rw [LLoc.at_self hlt] at hu; (injection hu with hu; subst hu)
    exact ⟨⟨.ref a, vm _ _ va, r' w⟩, fun _ _ e => nomatch e⟩
  · rw [hi] at hn; (injection hn with hn; subst hn)
    cases (vm _ _ va).unique vb'
    exact fun v => q (R.ownD j i nj n _ _ a hj hi hv' hv ow rfl v va)
theorem own_updR (R : FrR X hs N₀ env k.vars ρ W s.heap) (EF : EnvF env k) {i : Nat} {n : Str} {xs xs' : List (List At)} {a : Addr} {its' : Array Value} {h' : Heap} {t' : Nat} (hi : k.vars[i]? = some n) (hv : ρ.at i = some (.ownR xs)) (va : VarAt env s.heap n (.ref a))
    (l' : PlainL h' a its') (p' : (∀ b o, b ≠ a → s.heap.get? b = some o → h'.get? b = some o) → SeqK (nn N₀ W) s.heap h' → Paired (RT (nn N₀ W) h') xs' its'.toList) (z : xs'.length ≤ lim) (sb : Heap.SameBut a s.heap h') (hset : setL ρ i (.ownR xs') = some ρ') : Aft X hs N₀ env k.vars W s ρ' W { s with heap := h', toks := t' } := by
  refine Classical.byContradiction fun hHid => ?_
  obtain ⟨hlt, rfl⟩ := setL_of hset
  obtain ⟨y, vb, a', its, e, w, l, _⟩ := R.rd.var i n _ hi hv
  have := va.unique vb
  refine hHid ?_
  clear hHid
  rw [e] at this; (injection this with this; subst this)
  have keep : ∀ b o, b ≠ a → s.heap.get? b = some o → h'.get? b = some o := fun b o q e => by rw [sb.2 b q]; exact e
  obtain ⟨oa, ea, sa, ca, na, da⟩ := list_store l.isList
  have sq : SeqK (nn N₀ W) s.heap h' := fun b o a2 n2 e d q => keep b o (fun z => by
    rw [z, ea] at e; (injection e with e; subst e); exact q ca (.inr (z ▸ w))) e
  refine ⟨own_moveR (Z := fun _ => False) R hi hv va l' (fun w => ⟨a, its', rfl, w, l', p' keep sq, z⟩) (fun b o q => keep b o fun z => q (.inl z)) (fun _ q => q.elim) (fun q => q) (fun _ _ _ q => q) (fun _ _ _ _ q => q) (fun _ _ _ _ _ _ _ _ _ _ _ _ _ q => q), fun _ w => .inl w, fun b o e n _ => keep b o (fun q => n (q ▸ w)) e, fun b o e => ?_, ⟨h', t', rfl⟩⟩
  by_cases q : b = a
  · subst q; obtain ⟨o', _, e', _⟩ := l'; exact ⟨o', e'⟩
  · exact ⟨o, keep b o q e⟩
theorem FrR.frz (R : FrR X hs N₀ env k.vars ρ W s.heap) {i : Nat} {n : Str} {xs : List (List At)} (hi : k.vars[i]? = some n) (hv : ρ.at i = some (.ownR xs)) : ∃ W', Aft X hs N₀ env k.vars W s (ρ.set i (some (.rows xs))) W' s := by
  have hlt : i < ρ.length := by rw [R.len]; exact (List.getElem?_eq_some_iff.mp hi).1
  obtain ⟨y, va, a, its, rfl, w, l, p, z⟩ := R.rd.var i n _ hi hv
  have sub : ∀ b, nn N₀ (fun b => W b ∧ b ≠ a) b → nn N₀ W b := fun b q => by
    rcases q with q | q
    · exact .inl q
    · exact .inr q.1
  refine ⟨fun b => W b ∧ b ≠ a, ⟨⟨R.rd.base, fun b q => R.rd.lists b (sub b q), fun j nj u hj hu => ?_, fun j nj σ mv hj hu => ?_⟩, R.up, R.hb, fun b q => R.wnew b q.1, R.locN, R.locNs, R.celN, fun j1 j2 n1 n2 u v b h1 h2 h3 h4 o1 o2 h5 h6 => ?_, fun j1 j2 n1 n2 σ τ m m' I J D h1 h2 h3 h4 h5 h6 h7 h8 => ?_, by rw [List.length_set]; exact R.len, R.n0⟩, fun b q => .inl q.1, fun b o e _ _ => e, fun b o e => ⟨o, e⟩, .refl⟩
  · by_cases q : j = i
    · subst q
      rw [LLoc.at_self hlt] at hu
      (injection hu with hu; subst hu)
      rw [hi] at hj; (injection hj with hj; subst hj)
      refine ⟨_, va, a, its, rfl, fun q => ?_, l.isList, p.mono fun _ _ r => r.weak fun b _ q => sub b q, z⟩
      rcases q with q | q
      · exact R.n0 a q (R.wnew a w)
      · exact q.2 rfl
    · rw [LLoc.at_ne q] at hu
      obtain ⟨y, vj, r⟩ := R.rd.var j nj u hj hu
      refine ⟨y, vj, ?_⟩
      have wk : ∀ {v : LV}, RV (nn N₀ W) s.heap v y → RV (nn N₀ fun b => W b ∧ b ≠ a) s.heap v y := fun r => r.weak fun b _ q => sub b q
      cases u with
      | own ys => obtain ⟨b, its', e, w', l', r'⟩ := r; exact ⟨b, its', e, ⟨w', fun q2 => q (R.ownD j i nj n _ _ a hj hi hu hv rfl rfl (by rw [← q2, ← e]; exact vj) va)⟩, l', r'⟩
      | ownR ys => obtain ⟨b, its', e, w', l', p', z'⟩ := r; exact ⟨b, its', e, ⟨w', fun q2 => q (R.ownD j i nj n _ _ a hj hi hu hv rfl rfl (by rw [← q2, ← e]; exact vj) va)⟩, l', p'.mono fun _ _ r => r.weak fun b _ q => sub b q, z'⟩
      | mpu _ _ => trivial
      | «at» u => exact (wk (v := .at u) r).var
      | tup xs => exact (wk (v := .tup xs) r).var
      | rows xs => exact (wk (v := .rows xs) r).var
      | lists xs => exact (wk (v := .lists xs) r).var
  · have q : j ≠ i := fun q => by subst q; rw [LLoc.at_self hlt] at hu; cases hu
    rw [LLoc.at_ne q] at hu
    obtain ⟨I, D, L, ys, nm, vI, M⟩ := R.rd.mach j nj σ mv hj hu
    have q2 : mv ≠ i := fun q => by have := M.own; rw [q, hv] at this; cases this
    exact ⟨I, D, L, ys, nm, vI, by rw [LLoc.at_ne q2]; exact M.own, M.nam, M.vL, M.mr, M.hD, M.d0, M.l0, M.Dl⟩
  · have ne : ∀ {j : Nat} {u : LV}, LLoc.at (ρ.set i (some (.rows xs))) j = some u → Ow u = true → j ≠ i ∧ ρ.at j = some u := fun {j u} e o => by
      have q : j ≠ i := fun q => by subst q; rw [LLoc.at_self hlt] at e; (injection e with e; subst e); injection o
      rw [LLoc.at_ne q] at e
      exact ⟨q, e⟩
    exact R.ownD j1 j2 n1 n2 u v b h1 h2 (ne h3 o1).2 (ne h4 o2).2 o1 o2 h5 h6
  · have ne : ∀ {j : Nat} {σ : M} {m : Nat}, LLoc.at (ρ.set i (some (.rows xs))) j = some (.mpu σ m) → ρ.at j = some (.mpu σ m) := fun {j σ m} e => by
      have q : j ≠ i := fun q => by subst q; rw [LLoc.at_self hlt] at e; cases e
      rwa [LLoc.at_ne q] at e
    exact R.mchD j1 j2 n1 n2 σ τ m m' I J D h1 h2 (ne h3) (ne h4) h5 h6 h7 h8
end
end Mine

end
section
open PySem PySem.W PyProof.Rows
set_option maxRecDepth 100000
set_option maxHeartbeats 1000000
set_option linter.unusedSimpArgs false
set_option linter.unusedVariables false
set_option linter.unusedSectionVars false
namespace Mine
section
variable {X : LX} {A : Around} {cf : Nat → List LV → Option LV} {k : LC} {env : Env} {hs : Addr → Option Obj} {N₀ : Addr → Prop}
theorem tgs_cons {v : Nat} {vs : List Nat} {l : List PySem.Expr} (h : trTgs k (v :: vs) l = true) : ∃ n p l', l = .Name n p :: l' ∧ k.isVar v n = true ∧ trTgs k vs l' = true := by
  apply o_cons_elim h; intro x l h
  apply o_Name_elim h; intro n p h
  refine and_el h fun h1 h2 => ?_
  exact ⟨_, _, _, rfl, h1, h2⟩
theorem tgs_nil {l : List PySem.Expr} (h : trTgs k [] l = true) : l = [] := List.isEmpty_iff.mp h
theorem each_len {F : List FnD} (vs : List Nat) : ∀ {l : List PySem.Expr}, trTgs k vs l = true → (assignEach l env).length = vs.length ∧ (assignEach l env).findIdx? (·.1) = none := by
  induction vs with
  | nil => intro l h; rw [tgs_nil h]; exact ⟨rfl, rfl⟩
  | cons v vs ih =>
    intro l h
    obtain ⟨n, p, l', rfl, h1, h2⟩ := tgs_cons h
    obtain ⟨a, b⟩ := ih h2
    refine ⟨?_, ?_⟩
    · show ((false, assign (.Name n p) env) :: assignEach l' env).length = _
      rw [List.length_cons, a]; rfl
    · show ((false, assign (.Name n p) env) :: assignEach l' env).findIdx? (·.1) = none
      rw [List.findIdx?_cons, b]; rfl
theorem tgs_pos {vs : List Nat} {l : List PySem.Expr} (h : trTgs k vs l = true) (h2 : (!l.isEmpty) = true) : Nat.blt 0 vs.length = true := by
  cases vs with
  | nil => rw [tgs_nil h] at h2; injection h2
  | cons _ _ => rfl
theorem assign_names (EF : EnvF env k) (vs : List Nat) : ∀ (l : List PySem.Expr) (xs : List At) (ys : List Value) (ρ ρ' : LLoc) (W : Addr → Prop) (s : Shared) (Q : Unit → Shared → Prop) (E' : Value → Shared → Prop), trTgs k vs l = true → bindTs vs xs ρ = some ρ' → FrR X hs N₀ env k.vars ρ W s.heap →
    Paired (RA (nn N₀ W) s.heap) xs ys → (∀ s', Aft X hs N₀ env k.vars W s ρ' W s' → Q () s') → wpAny (model X.x.prog X.x.w) A (assignInOrder ((assignEach l env).map (·.2)) ys) Q E' s := by
  induction vs with
  | nil =>
    intro l xs ys ρ ρ' W s Q E' ht hb R pr h
    cases tgs_nil ht
    cases pr with
    | nil => (injection hb with hb; subst hb); exact wpAny_pure (h s (.refl R))
    | cons _ _ => injection hb
  | cons v vs ih =>
    intro l xs ys ρ ρ' W s Q E' ht hb R pr h
    obtain ⟨n, p, l', rfl, h1, h2⟩ := tgs_cons ht
    cases pr with
    | nil => injection hb
    | cons r pr =>
      rename_i x y xs ys
      refine bind_el hb fun ρ₁ hp hb => ?_
      show wpAny _ A (do holding ys (assign (.Name n p) env y); assignInOrder ((assignEach l' env).map (·.2)) ys) Q E' s
      refine wpAny_bind (wpAny_holding (wpAny_assign_Name (store_val EF R (isVarL_of h1) hp (v := .at x) r fun s₁ a₁ => ?_)))
      exact ih l' xs ys ρ₁ ρ' W s₁ Q E' h2 hb a₁.fr (pr.mono fun u y q => a₁.val R (v := .at u) q) fun s' a₂ => h s' (a₁.trans a₂)
theorem ext_kg {s : Shared} {h' : Heap} (e : Heap.ExtBut s.heap.objs.size s.heap h') : Kg s { s with heap := h' } := ⟨h', s.toks, rfl, fun b o q => e b o (Nat.ne_of_lt (Heap.lt_size q)) q⟩
theorem bindTs_len : ∀ (vs : List Nat) (xs : List At) {ρ ρ' : LLoc}, bindTs vs xs ρ = some ρ' → vs.length = xs.length
  | [], [], _, _, _ => rfl
  | v :: vs, x :: xs, _, _, h => by
    refine bind_el h fun _ _ h => ?_
    exact congrArg (· + 1) (bindTs_len vs xs h)
  | [], _ :: _, _, _, h => nomatch h
  | _ :: _, [], _, _, h => nomatch h
theorem bind_ok (hh : A.handled = none) (EF : EnvF env k) {tg : LTg} {t : PySem.Expr} {x : LV} {y : Value} {ρ ρ' : LLoc} {W : Addr → Prop} {s : Shared} {Q : Unit → Shared → Prop} {E' : Value → Shared → Prop} (ht : trTg k tg t = true) (hb : bindTg tg x ρ = some ρ') (R : FrR X hs N₀ env k.vars ρ W s.heap)
    (r : RV (nn N₀ W) s.heap x y) (h : ∀ s', Aft X hs N₀ env k.vars W s ρ' W s' → Q () s') : wpAny (model X.x.prog X.x.w) A (assign t env y) Q E' s := by
  cases tg with
  | one v =>
    apply o_Name_elim ht; intro n p ht
    exact wpAny_assign_Name (store_val EF R (isVarL_of ht) hb r h)
  | many vs =>
    apply o_Tuple_elim ht; intro l _ _ ht
    refine and_el ht fun h1 h2 => ?_
    refine bind_el hb fun xs hx hb => ?_
    cases LV.tup?_of hx
    obtain ⟨a, its, rfl, l, p⟩ := r
    obtain ⟨e1, e2⟩ := each_len (F := X.F) (env := env) _ h1
    refine wpAny_assign_Tuple hh l (by rw [e1, bindTs_len _ _ hb, p.length, Array.length_toList]) e2 fun h' ex => ?_
    have kg := ext_kg ex
    exact assign_names EF _ _ _ _ _ _ W _ Q E' h1 hb (R.grow kg.grow) (p.mono fun u y q => q.grow kg.grow) fun s' a => h s' ((Aft.of_kg R kg).trans a)
end
end Mine

end
section
open PySem PySem.W PyProof.Rows
set_option maxRecDepth 100000
set_option maxHeartbeats 1000000
set_option linter.unusedSimpArgs false
set_option linter.unusedVariables false
set_option linter.unusedSectionVars false
namespace Mine
section
variable {X : LX} {A : Around} {cf : Nat → List LV → Option LV} {k : LC} {env : Env} {hs : Addr → Option Obj} {N₀ : Addr → Prop}
theorem store_val2 (EF : EnvF env k) {ρ ρ' : LLoc} {W : Addr → Prop} {s : Shared} (R : FrR X hs N₀ env k.vars ρ W s.heap) {i : Nat} {n : Str} {v : LV} {y : Value} (hi : k.vars[i]? = some n) (hp : putV ρ i v = some ρ') (r : RV (nn N₀ W) s.heap v y) {Q : Unit → Shared → Prop} {E' : Value → Shared → Prop}
    (h : ∀ s', Aft X hs N₀ env k.vars W s ρ' W s' → Evo (fun _ => False) s.heap s'.heap → Q () s') : wpAny (model X.x.prog X.x.w) A (storeName env n y) Q E' s := by
  refine Classical.byContradiction fun hHid => ?_
  obtain ⟨st, hf, hset⟩ := putV_of hp
  obtain ⟨hlt, rfl⟩ := setL_of hset
  refine hHid ?_
  clear hHid
  refine raw_store EF R (List.mem_of_getElem? hi) fun h' t' S => h _ ⟨R.stored EF.nodup S hi hf (r.var.evo0 S.evo) (fun a o => by cases v <;> first | exact absurd o Bool.false_ne_true | exact absurd st Bool.false_ne_true) (fun σ mv q => by rw [q] at st; injection st), fun _ w => .inl w, S.evo.mono fun _ q => q.elim, fun b o e => ?_, ⟨h', t', rfl⟩⟩ S.evo
  obtain ⟨z, oz, ez, sz, hz, zk, keep, lv⟩ := S.same
  by_cases q : b = z
  · subst q; exact lv
  · exact ⟨o, keep b o q e⟩
theorem Evo.none_trans {a b c : Heap} (x : Evo (fun _ => False) a b) (y : Evo (fun _ => False) b c) : Evo (fun _ => False) a c := fun d o e n st => y d o (x d o e n st) n st
theorem assign_names2 (EF : EnvF env k) (vs : List Nat) : ∀ (l : List PySem.Expr) (xs : List At) (ys : List Value) (ρ ρ' : LLoc) (W : Addr → Prop) (s : Shared) (Q : Unit → Shared → Prop) (E' : Value → Shared → Prop), trTgs k vs l = true → bindTs vs xs ρ = some ρ' → FrR X hs N₀ env k.vars ρ W s.heap →
    Paired (RA (nn N₀ W) s.heap) xs ys → (∀ s', Aft X hs N₀ env k.vars W s ρ' W s' → Evo (fun _ => False) s.heap s'.heap → Q () s') → wpAny (model X.x.prog X.x.w) A (assignInOrder ((assignEach l env).map (·.2)) ys) Q E' s := by
  induction vs with
  | nil =>
    intro l xs ys ρ ρ' W s Q E' ht hb R pr h
    cases tgs_nil ht
    cases pr with
    | nil => (injection hb with hb; subst hb); exact wpAny_pure (h s (.refl R) fun _ _ e _ _ => e)
    | cons _ _ => injection hb
  | cons v vs ih =>
    intro l xs ys ρ ρ' W s Q E' ht hb R pr h
    obtain ⟨n, p, l', rfl, h1, h2⟩ := tgs_cons ht
    cases pr with
    | nil => injection hb
    | cons r pr =>
      rename_i x y xs ys
      refine bind_el hb fun ρ₁ hp hb => ?_
      show wpAny _ A (do holding ys (assign (.Name n p) env y); assignInOrder ((assignEach l' env).map (·.2)) ys) Q E' s
      refine wpAny_bind (wpAny_holding (wpAny_assign_Name (store_val2 EF R (isVarL_of h1) hp (v := .at x) r fun s₁ a₁ v₁ => ?_)))
      exact ih l' xs ys ρ₁ ρ' W s₁ Q E' h2 hb a₁.fr (pr.mono fun u y q => a₁.val R (v := .at u) q) fun s' a₂ v₂ => h s' (a₁.trans a₂) (v₁.none_trans v₂)
theorem bind_ok2 (hh : A.handled = none) (EF : EnvF env k) {vs : List Nat} {l : List PySem.Expr} {kk : Nat} {tp : Pos} {xs : List At} {y : Value} {ρ ρ' : LLoc} {W : Addr → Prop} {s : Shared} {Q : Unit → Shared → Prop} {E' : Value → Shared → Prop} (h1 : trTgs k vs l = true) (hb : bindTs vs xs ρ = some ρ') (R : FrR X hs N₀ env k.vars ρ W s.heap)
    (r : RT (nn N₀ W) s.heap xs y) (h : ∀ s', Aft X hs N₀ env k.vars W s ρ' W s' → Evo (fun _ => False) s.heap s'.heap → Q () s') : wpAny (model X.x.prog X.x.w) A (assign (.Tuple l kk tp) env y) Q E' s := by
  refine Classical.byContradiction fun hHid => ?_
  obtain ⟨a, its, rfl, l, p⟩ := r
  obtain ⟨e1, e2⟩ := each_len (F := X.F) (env := env) _ h1
  refine hHid ?_
  clear hHid
  refine wpAny_assign_Tuple hh l (by rw [e1, bindTs_len _ _ hb, p.length, Array.length_toList]) e2 fun h' ex => ?_
  have kg := ext_kg ex
  exact assign_names2 EF _ _ _ _ _ _ W _ Q E' h1 hb (R.grow kg.grow) (p.mono fun u y q => q.grow kg.grow) fun s' a v => h s' ((Aft.of_kg R kg).trans a) ((Evo.of_grow kg.grow).none_trans v)
theorem FrR.chgW {vars : List Str} {ρ : LLoc} {W : Addr → Prop} {h h' : Heap} (R : FrR X hs N₀ env vars ρ W h) {a : Addr} (w : W a) {its' : Array Value} (no : ∀ j nj u, vars[j]? = some nj → ρ.at j = some u → Ow u = true → ¬ VarAt env h nj (.ref a)) (l' : PlainL h' a its') (keep : ∀ b o, b ≠ a → h.get? b = some o → h'.get? b = some o) : FrR X hs N₀ env vars ρ W h' := by
  refine Classical.byContradiction fun hHid => ?_
  obtain ⟨its, l⟩ := R.rd.lists a (.inr w)
  obtain ⟨oa, ea, sa, ca, na, da⟩ := list_store l.isList
  have ne : ∀ {b : Addr} {o : Obj}, h.get? b = some o → o.cls ≠ .type "list" → b ≠ a := fun e c q => by rw [q, ea] at e; (injection e with e; subst e); exact c ca
  have nst : ∀ {b o}, h.get? b = some o → isStore o = true → b ≠ a := fun e st q => by rw [q, ea] at e; (injection e with e; subst e); rw [sa] at st; injection st
  have zl : ¬ env.locals = a := by obtain ⟨m, hm⟩ := R.locNs; obtain ⟨o, eo, so⟩ := store_dict hm; exact nst eo so
  refine hHid ?_
  clear hHid
  have zc : ∀ n c, env.cells.lookup n = some c → ¬ c = a := fun n c hc => by
    obtain ⟨_, v, hcell⟩ := R.celN n c hc
    obtain ⟨o, eo, so⟩ := store_cell hcell
    exact nst eo so
  have ls : ∀ {b its}, b ≠ a → PlainL h b its → PlainL h' b its := fun q l => by obtain ⟨o, n, e, c, dn, d⟩ := l; exact ⟨o, n, keep _ o q e, c, dn, d⟩
  have vm : ∀ {n y}, VarAt env h n y → VarAt env h' n y := fun v => v.move (Z := fun b => b = a) (fun b o q e => keep b o q e) zl zc
  have hsa : hs a = none := R.wnew a w
  have sq : SeqK (nn N₀ W) h h' := fun b o s n e d q => keep b o (fun z => by rw [z, ea] at e; (injection e with e; subst e); exact q ca (.inr (z ▸ w))) e
  refine R.upd (Z := fun b => b = a) vars.length ρ (fun b o q e => keep b o q e) (fun b q => q ▸ hsa) (by obtain ⟨m, n⟩ := R.locNs; exact ⟨m, n.at' fun o e => keep _ o zl e⟩) (fun n c hc => by obtain ⟨_, v, o, e, d⟩ := R.celN n c hc; exact ⟨v, o, keep _ _ (zc n c hc) e, d⟩) (fun b q => ?_)
    R.len (fun _ _ => rfl) (fun _ _ _ _ _ v => vm v) (fun j nj u y _ hj hu va r => r.keepS sq fun b its ow e _ l => ls (fun z => no j nj u hj hu ow (by rw [← z, ← e]; exact va)) l) (fun j nj σ mv I D L xs nm _ hj hu va M => ⟨xs, M.own, M.nam, vm M.vL, ?_, M.hD, M.d0, M.l0, M.Dl⟩)
    (fun n v hn => by rw [nth_none] at hn; injection hn) (fun n xs a hn => by rw [nth_none] at hn; injection hn) (fun n σ mv I D hn => by rw [nth_none] at hn; injection hn)
  · by_cases z : b = a
    · subst z; exact ⟨its', l'⟩
    · obtain ⟨its2, l2⟩ := R.rd.lists b q; exact ⟨its2, ls z l2⟩
  · obtain ⟨its2, l2, ia⟩ := M.mr.mem
    obtain ⟨m, n, _⟩ := M.mr.ns
    have nD : ¬ D = a := by obtain ⟨o, eo, so⟩ := store_dict n.ns; exact nst eo so
    have nL : L ≠ a := fun q => no mv nm _ M.nam M.own rfl (q ▸ M.vL)
    exact M.mr.move (Z := fun b => b = a) (xs := xs) (fun b o q e => keep b o q e) (fun b o e q => by have := R.up b o e; rw [q, hsa] at this; injection this) (fun q => by have e : h.get? I = some (instObj X.x.C D) := M.mr.inst; have q : I = a := q; rw [q, ea] at e; (injection e with e; subst e); injection da) nD (fun b f s e => ne e (fun q => by injection q with z; exact absurd z (by decide))) (ls nL l2) ia M.mr.sz
theorem FrR.forget {vars : List Str} {ρ : LLoc} {W : Addr → Prop} {h : Heap} (R : FrR X hs N₀ env vars ρ W h) : FrR X hs N₀ env vars (List.replicate vars.length none) W h := by
  have no : ∀ {i : Nat} {v : LV}, LLoc.at (List.replicate vars.length none) i ≠ some v := fun {i v} q => by
    unfold LLoc.at at q
    rw [List.getElem?_replicate] at q
    split at q <;> injection q
  exact ⟨⟨R.rd.base, R.rd.lists, fun i n v _ hv => absurd hv no, fun i n σ mv _ hv => absurd hv no⟩, R.up, R.hb, R.wnew, R.locN, R.locNs, R.celN, fun _ _ _ _ _ _ _ _ _ h3 => absurd h3 no, fun _ _ _ _ _ _ _ _ _ _ _ _ _ h3 => absurd h3 no, List.length_replicate, R.n0⟩
theorem FrR.offI {hs : Addr → Option Obj} {N₀ : Addr → Prop} {env : Env} {vars : List Str} {ρ : LLoc} {W : Addr → Prop} {h h' : Heap} {I : Addr} (R : FrR X hs N₀ env vars ρ W h) (keep : ∀ b o, b ≠ I → h.get? b = some o → h'.get? b = some o)
    (kI : ∃ o vs, h.get? I = some o ∧ o.data = .fields vs ∧ o.cls ≠ .type "method") (hI : hs I = none) : FrR X hs N₀ env vars ρ W h' := by
  obtain ⟨oI, vs, eI, dI, cI⟩ := kI
  have ne : ∀ {b : Addr} {o : Obj}, h.get? b = some o → (∀ vs, o.data ≠ .fields vs) → b ≠ I := fun e d q => by rw [q, eI] at e; (injection e with e; subst e); exact d vs dI
  refine R.same (Z := fun b => b = I) keep (fun b q => q ▸ hI) ?_ (fun n c hc => ?_) (fun b o a n e d => ne e fun vs q => by rw [d] at q; injection q) (fun b f s e q => by rw [q, eI] at e; (injection e with e; subst e); exact cI rfl) (fun b C D e => ne e fun vs q => nomatch q) (fun b m n => ?_)
  · obtain ⟨m, o, es, ep, e, d, _⟩ := R.locNs
    exact ne e fun vs q => by rw [d] at q; injection q
  · obtain ⟨_, v, o, e, d⟩ := R.celN n c hc
    exact ne e fun vs q => by rw [d] at q; injection q
  · obtain ⟨o, es, ep, e, d, _⟩ := n
    exact ne e fun vs q => by rw [d] at q; injection q
theorem clOf_none {cells : List (Str × Addr)} : ∀ (names : List (Str × NameKind)) (acc : List (Str × Addr)), (∀ y ∈ names, y.2 ≠ .free) → clOf cells names acc = acc
  | [], _, _ => rfl
  | (n, kd) :: r, acc, h => by
    have hk : kd ≠ .free := h (n, kd) (List.mem_cons_self ..)
    have : (kd == NameKind.free) = false := beq_eq_false_iff_ne.mpr hk
    unfold clOf
    rw [this]
    exact clOf_none r acc fun y hy => h y (List.mem_cons_of_mem _ hy)
structure CompT (tg : List Str) (sc : Scope) : Prop where
  kind : sc.kind = .function
  dbg : ∀ n ∈ tg, (n == ("__debug__" : Str)) = false
  loc : ∀ n ∈ tg, sc.names.lookup n = some .local
  nd : tg.Nodup
  cell : ∀ y ∈ sc.names, y.2 ≠ .cell
  free : ∀ y ∈ sc.names, y.2 ≠ .free
  locs : ∀ y ∈ sc.names, y.2 = .local → sc.names.lookup y.1 = some .local
theorem compT_of {tg : List Str} {sc : Scope} (h : compScT tg sc = true) : CompT tg sc := by
  unfold compScT at h
  simp only [Bool.and_eq_true, beq_iff_eq, bne_iff_ne, List.all_eq_true, decide_eq_true_eq, Bool.not_eq_true', Bool.or_eq_true] at h
  obtain ⟨⟨⟨h1, h2⟩, h3⟩, h4⟩ := h
  exact ⟨h1, fun n hn => (h2 n hn).1, fun n hn => (h2 n hn).2, h3, fun y hy => (h4 y hy).1.1, fun y hy => (h4 y hy).1.2, fun y hy q => by rcases (h4 y hy).2 with z | z; exact absurd q z; exact z⟩
theorem CompT.names {tg : List Str} {sc : Scope} (C : CompT tg sc) (env : Env) : (relabel sc env).names = sc.names := by
  show sc.names.map _ = _
  refine (List.map_congr_left fun y hy => ?_).trans (List.map_id _)
  obtain ⟨n, kd⟩ := y
  have : (kd == NameKind.free) = false := beq_eq_false_iff_ne.mpr (C.free _ hy)
  show (if (kd == NameKind.free && _ && _) = true then _ else _) = _
  rw [this]
  rfl
theorem CompT.envF {tg : List Str} {sc : Scope} (C : CompT tg sc) {env : Env} {vars : List Str} (EL : EnvL env vars) (a : Addr) : EnvF (compEnvC sc [] a env) ⟨sc.names, tg⟩ := by
  have hk : ∀ n, (compEnvC sc [] a env).kindOf n = sc.names.lookup n := fun n => by show List.lookup n (relabel sc env).names = _; rw [C.names env]
  refine ⟨⟨C.kind, EL.glob, EL.blt, C.dbg⟩, ⟨fun n h => (hk n).trans h, fun n h => absurd rfl (C.cell (n, .cell) (mem_of_lookup h))⟩, C.nd, .nil, fun n hn => .inl ((hk n).trans (C.loc n hn)), (C.names env).symm⟩
end
end Mine

end
section
open PySem PySem.W PyProof.Rows
set_option maxRecDepth 100000
set_option maxHeartbeats 1000000
set_option linter.unusedSimpArgs false
set_option linter.unusedVariables false
set_option linter.unusedSectionVars false
namespace Mine
section
variable {X : LX} {A : Around} {cf : Nat → List LV → Option LV}
noncomputable def rowF (cf : Nat → List LV → Option LV) (tg : List Str) (elts : LEs) (it : LV) : Option (List At) := it.tup?.bind fun xs => (bindTs (List.range tg.length) xs (List.replicate tg.length none)).bind fun ρ' => (evLs cf elts ρ').bind fun vs => if vs.length ≤ lim then mapO asAt vs else none
noncomputable def CI (X : LX) (N : Addr → Prop) (cenv : Env) (tg : List Str) (hp : Heap) (D : Addr) (St : Nat → Heap → Prop) (rs : List (List At)) (m : Nat) (s₂ : Shared) (n : Nat) (s : Shared) : Prop :=
  ∃ i ρ ys, i ≤ m ∧ n = m - i ∧ FrR X (fun b => hp.get? b) N cenv tg ρ (fun b => b = D) s.heap ∧ St i s.heap ∧ PlainL s.heap D ys ∧ Paired (RT (nn N fun b => b = D) s.heap) (rs.take i) ys.toList ∧ Ks s₂ s
theorem bindTs_at : ∀ (vs : List Nat) (xs : List At) {ρ ρ' : LLoc}, bindTs vs xs ρ = some ρ' → (∀ i u, ρ.at i = some u → Ow u = false) → ∀ i u, LLoc.at ρ' i = some u → Ow u = false
  | [], [], _, _, h, q => by (injection h with h; subst h); exact q
  | v :: vs, x :: xs, _, _, h, q => by
    refine bind_el h fun ρ₁ h1 h2 => ?_
    refine bindTs_at vs xs h2 fun i u e => ?_
    obtain ⟨_, _, hset⟩ := putV_of h1
    obtain ⟨hlt, rfl⟩ := setL_of hset
    by_cases z : i = v
    · subst z; rw [LLoc.at_self hlt] at e; (injection e with e; subst e); rfl
    · rw [LLoc.at_ne z] at e; exact q i u e
  | [], _ :: _, _, _, h, _ => nomatch h
  | _ :: _, [], _, _, h, _ => nomatch h
theorem g_compT (hh : A.handled = none) {tg : List Str} {elts : LEs} {src : LSrc} (ges : GoodEs X A cf elts) (gs : GoodS X A cf src) : GoodE X A cf (.compT tg elts src) := by
  intro k env ρ hs N₀ W ex v ht he EL KO hl s Q E' R h
  refine inv_trL_compT ht fun l2 p1 p2 l p3 p4 it sc p5 hx₀ hC htg hpos hsr hst hel => ?_
  subst hx₀
  have C := compT_of hC
  refine bind_el he fun items hi he => ?_
  refine map_el he fun rs hrs e => ?_
  subst e
  have hrs : mapO (rowF cf tg elts) items = some rs := hrs
  have hclos : closureFor sc env = pure [] := by
    rw [closure_eq fun y hy hf => absurd hf (C.free y hy), clOf_none _ _ C.free]
  rw [eval_ListComp]
  refine wpAny_comprehension_free (use := none) rfl (fold_src hsr env) hclos C.kind C.locs (gs k env ρ hs N₀ W _ items hsr hi EL KO hl s _ _ R fun itv s₂ S => ?_)
  obtain ⟨I, fp, P, St, hp, rfl, hz, Wk, st, nI, g1, g2, kg, eI, hfp, hP, stK, itK, go⟩ := S
  refine wpAny_newObj_type (wpAny_newFunctionEnv C.cell (by intro y hy; simp at hy) (fun h₁ hns₁ hsb₁ => ?_) C.kind)
  dsimp only at hns₁ hsb₁ ⊢
  generalize hH2 : s₂.heap.push { cls := .type "list", dict := none, data := .seq ([] : List Value).toArray } = H2 at hns₁ hsb₁ ⊢
  have hC2 : H2.objs.size = s₂.heap.objs.size + 1 := by rw [← hH2, Heap.size_push]
  have hDC : s₂.heap.objs.size ≠ H2.objs.size := by rw [hC2]; exact Nat.ne_of_lt (Nat.lt_succ_self _)
  have below : ∀ b, b < s₂.heap.objs.size → b ≠ H2.objs.size ∧ b ≠ s₂.heap.objs.size := fun b hb => ⟨by rw [hC2]; exact Nat.ne_of_lt (Nat.lt_succ_of_lt hb), Nat.ne_of_lt hb⟩
  have old : ∀ b o, s₂.heap.get? b = some o → h₁.get? b = some o := fun b o e => hsb₁.extBut b o (below b (Heap.lt_size e)).1 (Heap.get?_push_of_some _ (hH2 ▸ Heap.get?_push_of_some _ e))
  have hacc : PlainL h₁ s₂.heap.objs.size #[] := ⟨_, _, hsb₁.extBut _ _ hDC (Heap.get?_push_of_some _ (hH2 ▸ Heap.get?_push_size _ rfl)), rfl, rfl, rfl⟩
  have fresh : ∀ a, s₂.heap.objs.size ≤ a → s₂.heap.get? a = none := fun a ha => by
    cases e : s₂.heap.get? a with
    | none => rfl
    | some o' => exact absurd (Heap.lt_size e) (Nat.not_lt.mpr ha)
  have nD2 := fresh s₂.heap.objs.size (Nat.le_refl _)
  have nC2 := fresh H2.objs.size (by rw [hC2]; exact Nat.le_succ _)
  have nD : hp.get? s₂.heap.objs.size = none := none_down g2 nD2
  have nC : hp.get? H2.objs.size = none := none_down g2 nC2
  have hzr : rs.length = items.length := mapO_len hrs
  generalize hDq : s₂.heap.objs.size = D at *
  generalize hCq : H2.objs.size = Ca at *
  have EF := C.envF EL Ca
  have Rp := R.grow g1
  have NP : ∀ {b : Addr}, nn N₀ W b → ∃ o, hp.get? b = some o := fun w => by obtain ⟨its, o, _, e, _⟩ := Rp.lists _ w; exact ⟨o, e⟩
  have gr₁ : Grow hp h₁ := fun b o e => old b o (g2 b o e)
  have no : ∀ {i : Nat} {v : LV}, LLoc.at (List.replicate tg.length none) i ≠ some v := fun {i v} q => by
    unfold LLoc.at at q
    rw [List.getElem?_replicate] at q
    split at q <;> injection q
  have F0 : FrR X (fun b => hp.get? b) (nn N₀ W) (compEnvC sc [] Ca env) tg (List.replicate tg.length none) (fun b => b = D) h₁ := by
    refine ⟨⟨fun b o e => gr₁ b o (Rp.base b o e), fun b w => ?_, fun i n v _ hv => absurd hv no, fun i n σ mv _ hv => absurd hv no⟩, fun b o e => Rp.base b o e, fun b o e => gr₁ b o e, fun b w => w ▸ nD, nC, ⟨_, hns₁⟩, fun n c hc => (nomatch hc), fun _ _ _ _ _ _ _ _ _ h3 => absurd h3 no, fun _ _ _ _ _ _ _ _ _ _ _ _ _ h3 => absurd h3 no, List.length_replicate, fun b w q => (by obtain ⟨o, e⟩ := NP w; rw [show hp.get? b = none from q] at e; injection e)⟩
    rcases w with w | w
    · obtain ⟨its, l⟩ := Rp.lists b w; exact ⟨its, l.keeps gr₁⟩
    · exact ⟨_, w ▸ hacc⟩
  have nfD : ∀ b ∈ fp, b ≠ D ∧ b ≠ Ca := fun b hb => by
    rcases hfp b hb with rfl | ⟨o, e, _⟩
    · obtain ⟨o, e⟩ := eI
      exact ⟨fun q => (by rw [q, nD2] at e; injection e), fun q => (by rw [q, nC2] at e; injection e)⟩
    · exact ⟨fun q => (by rw [q, nD] at e; injection e), fun q => (by rw [q, nC] at e; injection e)⟩
  have st₁ : St 0 h₁ := Wk.frame _ _ _ st fun b _ o e => old b o e
  have ks0 : Ks s₂ { s₂ with heap := h₁, toks := s₂.toks + ([] : List (Str × Value)).length } := ⟨h₁, _, rfl⟩
  have loop : codeAny (model X.x.prog X.x.w) A (.compLoop (.ListComp (.Tuple l2 p1 p2) [⟨.Tuple l p3 p4, it, [], 0⟩] sc p5) 0 (.ref I) (.ref D) (compEnvC sc [] Ca env)) (compPost (model X.x.prog X.x.w) A E' none Q (.ref D) Ca) { s₂ with heap := h₁, toks := s₂.toks + ([] : List (Str × Value)).length } := by
    refine kcp_loop (CI X (nn N₀ W) (compEnvC sc [] Ca env) tg hp D St rs items.length s₂) ?_ items.length ⟨0, _, #[], Nat.zero_le _, rfl, F0, st₁, hacc, by rw [List.take_zero]; exact .nil, ks0⟩
    rintro n s₃ ⟨i, ρ₁, ys, hle, rfl, F₃, st₃, lD, pr, ks⟩
    have keepI : ∀ {h' : Heap}, (∀ b o, b ∉ [I] → s₃.heap.get? b = some o → h'.get? b = some o) → ∀ b o, b ≠ I → s₃.heap.get? b = some o → h'.get? b = some o := fun keep b o q e => keep b o (fun z => q (List.mem_singleton.mp z)) e
    have nDI : D ≠ I := fun q => by obtain ⟨o, e⟩ := eI; rw [← q, nD2] at e; injection e
    by_cases hlt : i < items.length
    · refine Wk.item i s₃ _ _ hlt st₃ fun v h₄ tk hpv st₄ keep => ?_
      have F₄ := F₃.offI (keepI keep) (itK i _ st₃) nI
      obtain ⟨lv, hlv, rlv⟩ := hP i v hpv
      obtain ⟨row, hrow, hri⟩ := mapO_at hrs hlv
      refine bind_el hrow fun xs hx hrow => ?_
      obtain ⟨ρ', hb, hrow⟩ := bind_of hrow
      refine bind_el hrow fun vs hvs hrow => ?_
      obtain ⟨hvz, hm⟩ := ite_of hrow
      cases LV.tup?_of hx
      have rT : RT (nn (nn N₀ W) fun b => b = D) h₄ xs v := RT.grow (RT.weak rlv fun b ⟨o, e⟩ q => by
        rcases q with q | q
        · exact q
        · rw [q, nD] at e; injection e) fun b o e => F₄.hb b o e
      obtain ⟨T, its, rfl, hT⟩ := rT
      refine go (i + 1) _ T _ _ _ _ _ st₄ ?_
      have Ff := F₄.forget
      refine bind_ok2 (s := { s₃ with heap := h₄, toks := tk }) hh EF htg hb Ff ⟨T, its, rfl, hT⟩ fun s₅ a₅ v₅ => ?_
      refine wpAny_Tuple (ges ⟨sc.names, tg⟩ _ ρ' _ _ _ l2 vs _ hel hvs EF.el EF.ko a₅.fr.len s₅ _ _ a₅.fr.rd fun ys₆ s₆ p₆ k₆ => ?_)
      have hl6 : ys₆.length = vs.length := p₆.length.symm
      refine ⟨by rw [hl6]; exact Nat.le_trans hvz lim_size, ?_⟩
      have k₇ : Kg s₅ { s₆ with heap := s₆.heap.push { cls := .type "tuple", data := .seq ys₆.toArray } } := k₆.trans .push'
      have lD₄ : PlainL h₄ D ys := by obtain ⟨o, n, e, r⟩ := lD; exact ⟨o, n, keepI keep D o nDI e, r⟩
      have lD₇ : PlainL (s₆.heap.push { cls := .type "tuple", data := .seq ys₆.toArray }) D ys := by
        obtain ⟨o, n, e, c, dn, d⟩ := lD₄
        exact ⟨o, n, k₇.grow _ _ (v₅ D o e (fun q => q) (by unfold isStore; rw [d])), c, dn, d⟩
      refine list_append_plainL lD₇ (fun h₈ l₈ sb => ?_) (by
        have : ys.size = i := by rw [← Array.length_toList, ← pr.length, List.length_take, hzr]; lia
        rw [this]; exact Nat.le_trans (Nat.le_of_lt hlt) (Nat.le_trans hz lim_size))
      have F₇ := a₅.fr.grow k₇.grow
      have noOw : ∀ i u, LLoc.at ρ' i = some u → Ow u = false := bindTs_at _ _ hb fun i u e => absurd e no
      have F₈ := F₇.chgW (a := D) rfl (fun j nj u _ hu o => by rw [noOw j u hu] at o; injection o) l₈ (fun b o q e => by rw [sb.2 b q]; exact e)
      have step : ∀ b o, b ≠ D → h₄.get? b = some o → isStore o = false → h₈.get? b = some o := fun b o q e st => by rw [sb.2 b q]; exact k₇.grow b o (v₅ b o e (fun z => z) st)
      refine ⟨items.length - (i + 1), by lia, i + 1, ρ', ys.push _, hlt, rfl, F₈, Wk.frame (i + 1) h₄ h₈ st₄ (fun b hb' o eo => step b o (nfD b hb').1 eo (stK (i + 1) h₄ b o st₄ hb' eo)), l₈, ?_, ?_⟩
      · rw [List.take_add_one, hri, Option.toList_some, Array.toList_push]
        have sq : SeqK (nn (nn N₀ W) fun b => b = D) s₃.heap h₈ := fun b o a n e d q => by
          have nb : b ≠ D := fun z => by
            obtain ⟨o', _, e', c', _⟩ := lD
            rw [z, e'] at e; (injection e with e; subst e)
            exact q c' (.inr z)
          have nbI : b ≠ I := fun z => by
            obtain ⟨oI, vI, eI', dI, _⟩ := itK i _ st₃
            rw [z, eI'] at e; (injection e with e; subst e); rw [dI] at d; injection d
          exact step b o nb (keepI keep b o nbI e) (by unfold isStore; rw [d])
        refine (pr.mono fun _ _ r => RT.keepS r sq).snoc ?_
        have pv : Paired (RV (nn (nn N₀ W) fun b => b = D) s₆.heap) vs ys₆ := p₆.mono fun u y q => q.unfl hst
        have sq6 : SeqK (nn (nn N₀ W) fun b => b = D) s₆.heap h₈ := fun b o a n e d q => by
          have e7 : (s₆.heap.push { cls := .type "tuple", data := .seq ys₆.toArray }).get? b = some o := Heap.get?_push_of_some _ e
          have nb : b ≠ D := fun z => by
            obtain ⟨o', _, e', c', _⟩ := lD₇
            rw [z, e'] at e7; (injection e7 with e7; subst e7)
            exact q c' (.inr z)
          rw [sb.2 b nb]; exact e7
        refine ⟨_, ys₆.toArray, rfl, ⟨{ cls := .type "tuple", data := .seq ys₆.toArray }, ?_, rfl, _, rfl⟩, mapO_paired (fun a b c hf q => by cases LV.at?_of hf; exact RA.keepS q sq6) hm pv⟩
        have ne : s₆.heap.objs.size ≠ D := fun z => by
          obtain ⟨o, n, e, c, dn, d⟩ := lD₄
          have := k₆.grow _ _ (v₅ D o e (fun q => q) (by unfold isStore; rw [d]))
          rw [← z] at this
          exact absurd (Heap.lt_size this) (Nat.lt_irrefl _)
        rw [sb.2 _ ne]
        exact Heap.get?_push_size _ rfl
      · obtain ⟨h2, t2, rfl⟩ := ks
        obtain ⟨h3, t3, rfl⟩ := a₅.ks
        obtain ⟨h4, t4, rfl, _⟩ := k₆
        exact ⟨h₈, t4, rfl⟩
    · obtain rfl : i = items.length := Nat.le_antisymm hle (Nat.not_lt.mp hlt)
      refine Wk.done s₃ _ _ st₃ fun h' tk keep => ?_
      have F' := F₃.offI (keepI keep) (itK _ _ st₃) nI
      obtain ⟨m, hm⟩ := F'.locNs
      refine ⟨m, hm, fun h'' hs'' => ?_⟩
      have up : ∀ b o, b ≠ Ca → h'.get? b = some o → h''.get? b = some o := fun b o q e => by rw [hs''.2 b q]; exact e
      have lD' : h''.IsList D ys := by
        obtain ⟨o, n, e, c, dn, d⟩ := lD
        exact ⟨o, up D o hDC (keepI keep D o nDI e), c, n, d⟩
      have sq : SeqK (nn (nn N₀ W) fun b => b = D) s₃.heap h'' := fun b o a n e d q => by
        have nbI : b ≠ I := fun z => by
          obtain ⟨oI, vI, eI', dI, _⟩ := itK _ _ st₃
          rw [z, eI'] at e; (injection e with e; subst e); rw [dI] at d; injection d
        have nbC : b ≠ Ca := fun z => by
          obtain ⟨m3, o3, es3, ep3, e3, d3, _⟩ := F₃.locNs
          have e3 : s₃.heap.get? Ca = some o3 := e3
          rw [z, e3] at e; (injection e with e; subst e); rw [d3] at d; injection d
        exact up b o nbC (keepI keep b o nbI e)
      rw [List.take_of_length_le (by rw [hzr]; exact Nat.le_refl _)] at pr
      have gr : Grow s.heap h'' := fun b o e => by
        have e2 := F'.hb b o (g1 b o e)
        refine up b o (fun z => ?_) e2
        have := g1 b o e
        rw [z, nC] at this; injection this
      refine h _ _ ⟨D, ys, rfl, fun q => ?_, lD', pr.mono fun _ _ r => (RT.keepS r sq).weak fun b _ q => .inl q.2, by rw [hzr]; exact hz⟩ ?_
      · obtain ⟨o, e⟩ := NP q.2; rw [nD] at e; injection e
      · obtain ⟨h2, t2, rfl, _⟩ := kg
        obtain ⟨h3, t3, rfl⟩ := ks
        exact ⟨h'', tk, rfl, gr⟩
  exact codeAny_compStart_list loop (Wk.self 0 _ _ _ st₁ loop)
end
end Mine

end
section
open PySem PySem.W PyProof.Rows
set_option maxRecDepth 100000
set_option maxHeartbeats 1000000
set_option linter.unusedSimpArgs false
set_option linter.unusedVariables false
namespace Mine
section
variable {X : LX} {A : Around} {cf : Nat → List LV → Option LV}
theorem g_nil : GoodEs X A cf .nil := by
  intro k env ρ hs N₀ W l vs pos ht he EL KO hl s Q E' R h
  cases l with
  | nil => (injection he with he; subst he); exact args_nil (h _ s .nil .refl)
  | cons _ _ => injection ht
theorem g_cons {e : LE} {r : LEs} (ge : GoodE X A cf e) (gr : GoodEs X A cf r) : GoodEs X A cf (.cons e r) := by
  intro k env ρ hs N₀ W l vs pos ht he EL KO hl s Q E' R h
  cases l with
  | nil => injection ht
  | cons x l =>
    refine and_el ht fun ht hr => ?_
    refine and_el ht fun hp hx => ?_
    refine bind_el he fun v hv he => ?_
    obtain ⟨vs', hvs, e⟩ := map_of he
    subst e
    refine args_cons (ge k env ρ hs N₀ W _ v hx hv EL KO hl s _ _ R fun y s₁ ry k₁ => gr k env ρ hs N₀ W l vs' pos hr hvs EL KO hl s₁ _ _ (R.grow k₁.grow) fun ys s₂ p k₂ => ?_) (plainL_star hp env l)
    exact h _ s₂ (.cons (fl_true (ry.grow k₂.grow) fun q => (Bool.and_eq_true_iff.mp q).1) (p.mono fun _ _ q => fl_true q fun z => (Bool.and_eq_true_iff.mp z).2)) (k₁.trans k₂)
noncomputable def plainX : PySem.Expr → Bool
  | .Name .. => true | .Constant .. => true | .BinOp .. => true | .Subscript .. => true | .Call .. => true | .List .. => true | .Tuple .. => true | .Attribute .. => true | .ListComp .. => true
  | .UnaryOp .USub _ _ => true
  | _ => false
theorem plainX_is {ex : PySem.Expr} {env : Env} (h : plainX ex = true) : isTrue ex env (eval ex env) = (do let v ← eval ex env; standAt ex.pos; holding [v] (truthy v)) := by
  cases ex with
  | UnaryOp o _ _ => cases o <;> first | rfl | injection h
  | _ => first | rfl | injection h

variable (OK : LOk X) {d : Nat} (ao : AOk A d) (hcf : CallLOk X A cf)
theorem ET {e : LE} (g : GoodE X A cf e) (h : ∀ k ex, trL X.F k e ex = true → plainX ex = true) : GoodE X A cf e ∧ GoodT X A cf e := ⟨g, goodT_of g fun k ex _ ht => plainX_is (h k ex ht)⟩
theorem g_ifeT {t a b : LE} (tt : GoodT X A cf t) (ta : GoodT X A cf a) (tb : GoodT X A cf b) : GoodT X A cf (.ife t a b) := by
  intro k env ρ hs N₀ W ex v c ht he hc EL KO hl s Q E' R h
  refine inv_trL_ife ht fun _ _ _ _ hx₀ ht => ?_
  subst hx₀
  refine and_el ht fun ht hb => ?_
  refine and_el ht fun hx ha => ?_
  refine bind_el he fun x ex he => ?_
  refine bind_el he fun q hv he => ?_
  rw [arm_isTrue_IfExp]
  refine wpAny_bind (tt k env ρ hs N₀ W _ _ q hx ex hv EL KO hl s _ _ R fun s₁ ka => ?_)
  cases q
  · exact tb k env ρ hs N₀ W _ _ c hb he hc EL KO hl s₁ _ _ (R.grow ka.grow) fun s₂ kb => h s₂ (ka.trans kb)
  · exact ta k env ρ hs N₀ W _ _ c ha he hc EL KO hl s₁ _ _ (R.grow ka.grow) fun s₂ kb => h s₂ (ka.trans kb)
include OK ao hcf
mutual
theorem sound_L : ∀ e : LE, GoodE X A cf e ∧ GoodT X A cf e
  | .int i => ET (g_int i) (fun k ex ht => by refine inv_trL_int ht fun _ _ _ hx₀ ht => ?_; subst hx₀; rfl)
  | .bool b => ET (g_bool b) (fun k ex ht => by refine inv_trL_bool ht fun _ _ _ hx₀ ht => ?_; subst hx₀; rfl)
  | .none => ET g_none (fun k ex ht => by refine inv_trL_none ht fun _ _ hx₀ ht => ?_; subst hx₀; rfl)
  | .var v => ET (g_var v) (fun k ex ht => by refine inv_trL_var ht fun _ _ hx₀ ht => ?_; subst hx₀; rfl)
  | .own v => ET (g_own v) (fun k ex ht => by refine inv_trL_own ht fun _ _ hx₀ ht => ?_; subst hx₀; rfl)
  | .bin op a b => ET (g_bin (sound_L a).1 (sound_L b).1).toE (fun k ex ht => by refine inv_trL_bin ht fun _ _ _ _ hx₀ ht => ?_; subst hx₀; rfl)
  | .neg a => ET (g_neg (sound_L a).1) (fun k ex ht => by
      refine inv_trL_neg ht fun _ _ _ hx₀ ht => ?_
      subst hx₀
      rw [beq_iff_eq.mp (Bool.and_eq_true_iff.mp ht).1]; rfl)
  | .cmp op a b => g_cmp (by have := ao.un; lia) (sound_L a).1 (sound_L b).1
  | .and a b => g_and (sound_L a).1 (sound_L b).1 (sound_L a).2 (sound_L b).2
  | .not a => g_not (sound_L a).1 (sound_L a).2
  | .cmp2 o p a b d => g_cmp2 (sound_L a).1 (sound_L b).1 (sound_L d).1
  | .or3 a b d => g_or3 (sound_L a).1 (sound_L b).1 (sound_L d).1 (sound_L a).2 (sound_L b).2 (sound_L d).2
  | .ife t a b => ⟨g_ife (sound_L t).2 (sound_L a).1 (sound_L b).1, g_ifeT (sound_L t).2 (sound_L a).2 (sound_L b).2⟩
  | .idx a i => ET (g_idx (sound_L a).1 (sound_L i).1) (fun k ex ht => by refine inv_trL_idx ht fun _ _ _ hx₀ ht => ?_; subst hx₀; rfl)
  | .slc a lo hi => ET (g_slc (sound_L a).1 (sound_L lo).1 (sound_L hi).1).toE (fun k ex ht => by refine inv_trL_slc ht fun _ _ _ _ _ _ hx₀ ht => ?_; subst hx₀; rfl)
  | .len a => ET (g_len OK (sound_L a).1) (fun k ex ht => by refine inv_trL_len ht fun _ _ _ _ hx₀ ht => ?_; subst hx₀; rfl)
  | .disp es => ET (g_disp (sound_Ls es)).toE (fun k ex ht => by refine inv_trL_disp ht fun _ _ hx₀ ht => ?_; subst hx₀; rfl)
  | .tup es => ET (g_tup (sound_Ls es)) (fun k ex ht => by refine inv_trL_tup ht fun _ _ _ hx₀ ht => ?_; subst hx₀; rfl)
  | .attr v f => ET (g_attr OK v f) (fun k ex ht => by refine inv_trL_attr ht fun _ _ _ _ hx₀ ht => ?_; subst hx₀; rfl)
  | .rev a => ET (g_rev (sound_L a).1) (fun k ex ht => by refine inv_trL_rev ht fun _ _ _ _ _ _ hx₀ _ _ => ?_; subst hx₀; rfl)
  | .divm a b => ET (g_divm OK (sound_L a).1 (sound_L b).1) (fun k ex ht => by refine inv_trL_divm ht fun _ _ _ _ _ hx₀ ht => ?_; subst hx₀; rfl)
  | .call f es => ET (g_call OK hcf (sound_Ls es)) (fun k ex ht => by refine inv_trL_call ht fun _ _ _ _ hx₀ ht => ?_; subst hx₀; rfl)
  | .comp elt caps src => ET (g_comp (sound_L elt).1 (sound_Src src)) (fun k ex ht => by refine inv_trL_comp ht fun _ _ _ _ _ _ _ _ hx₀ ht => ?_; subst hx₀; rfl)
  | .compT tg elts src => ET (g_compT ao.hh (sound_Ls elts) (sound_Src src)) (fun k ex ht => by refine inv_trL_compT ht fun _ _ _ _ _ _ _ _ _ hx₀ _ _ _ _ _ _ => ?_; subst hx₀; rfl)
theorem sound_Ls : ∀ es : LEs, GoodEs X A cf es
  | .nil => g_nil
  | .cons e r => g_cons (sound_L e).1 (sound_Ls r)
theorem sound_Src : ∀ src : LSrc, GoodS X A cf src
  | .rng e => g_rng OK ao.hh (sound_L e).1
  | .lst e => g_lst ao.hh (sound_L e).1
end
theorem sound_F : ∀ e : LE, freshE e = true → GoodF X A cf e
  | .bin op a b, _ => g_bin (sound_L OK ao hcf a).1 (sound_L OK ao hcf b).1
  | .slc a lo hi, _ => g_slc (sound_L OK ao hcf a).1 (sound_L OK ao hcf lo).1 (sound_L OK ao hcf hi).1
  | .disp es, _ => g_disp (sound_Ls OK ao hcf es)
  | .int i, h => by injection h
  | .bool b, h => by injection h
  | .none, h => by injection h
  | .var v, h => by injection h
  | .own v, h => by injection h
  | .neg a, h => by injection h
  | .cmp op a b, h => by injection h
  | .and a b, h => by injection h
  | .not a, h => by injection h
  | .cmp2 o p a b d, h => by injection h
  | .or3 a b d, h => by injection h
  | .ife t a b, h => by injection h
  | .idx a i, h => by injection h
  | .len a, h => by injection h
  | .tup es, h => by injection h
  | .attr v f, h => by injection h
  | .divm a b, h => by injection h
  | .rev a, h => by injection h
  | .call f es, h => by injection h
  | .comp elt caps src, h => by injection h
  | .compT tg elts src, h => by injection h
end
end Mine

end
section
open PySem PySem.W PyProof.Rows
set_option maxRecDepth 100000
set_option maxHeartbeats 1000000
set_option linter.unusedSimpArgs false
set_option linter.unusedVariables false
namespace Mine
section
variable {X : LX} {hs : Addr → Option Obj} {N₀ : Addr → Prop} {env : Env} {k : LC} {ρ ρ' ρ'' : LLoc} {W W' W'' : Addr → Prop} {s s' s'' : Shared} {A : Around} {E' : Value → Shared → Prop} {h : Heap}
theorem FrR.put (R : FrR X hs N₀ env k.vars ρ W h) (v : Nat) (o : Option LV) {n : Str} (hn : k.vars[v]? = some n) (hv : ∀ xs, ρ.at v ≠ some (.own xs)) (no : ∀ u, o = some u → Ow u = false)
    (hm : ∀ u, o = some u → ∃ σ mv y, u = .mpu σ mv ∧ VarAt env h n y ∧ NewMach X hs env k.vars ρ h v y σ mv) : FrR X hs N₀ env k.vars (ρ.set v o) W h := by
  have hlt : v < ρ.length := by rw [R.len]; exact (List.getElem?_eq_some_iff.mp hn).1
  have mo : ∀ {I D L xs nm σ mv}, Mch X hs env k.vars ρ h I D L xs nm σ mv → Mch X hs env k.vars (ρ.set v o) h I D L xs nm σ mv := fun M => ⟨by rw [LLoc.at_ne fun q => hv _ (q ▸ M.own)]; exact M.own, M.nam, M.vL, M.mr, M.hD, M.d0, M.l0, M.Dl⟩
  refine R.upd (Z := fun _ => False) v _ (fun b o _ e => e) (fun _ q => q.elim) R.locNs (fun n c hc => (R.celN n c hc).2) R.rd.lists (by rw [List.length_set]; exact R.len) (fun j q => LLoc.at_ne q) (fun _ _ _ _ _ v => v) (fun _ _ _ _ _ _ _ _ r => r)
    (fun j nj σ mv I D L xs nm _ _ _ _ M => ⟨xs, mo M⟩) (fun n' u hn' hu => ?_) (fun n' u a hn' hu ow => absurd ow (by rw [no u ((LLoc.at_self hlt).symm.trans hu)]; exact Bool.false_ne_true)) (fun n' σ mv I D hn' hu va e => ?_)
  all_goals (rw [hn] at hn'; (injection hn' with hn'; subst hn'); rw [LLoc.at_self hlt] at hu)
  · obtain ⟨σ, mv, y, rfl, va, _, I, D, L, xs, nm, rfl, M, _⟩ := hm u hu
    exact ⟨⟨_, va, trivial⟩, fun σ' mv' e => by cases e; exact ⟨I, D, L, xs, nm, va, mo M⟩⟩
  · obtain ⟨σ', mv', y, e', va', _, I', D', L, xs, nm, rfl, M, no'⟩ := hm _ hu
    (injection e' with e'; subst e')
    cases va.unique va'
    have e2 : h.get? I = some (instObj X.x.C D') := M.mr.inst
    rw [e2] at e
    obtain rfl : D' = D := by injection e with e; injection e with _ e; injection e
    exact no'
theorem Mr.parts {x : Cx} {σ : M} (m : Mr x σ h) : ∃ o es ep, h.get? x.D = some o ∧ isStore o = true ∧ o.data = .dict es ep := by
  refine Classical.byContradiction fun hHid => ?_
  obtain ⟨mm, n, _⟩ := m.ns
  obtain ⟨o, es, ep, e, d, _⟩ := n.ns
  refine hHid ?_
  clear hHid
  exact ⟨o, es, ep, e, by unfold isStore; rw [d], d⟩
theorem small_at (OK : LOk X) (I D L : Addr) : Small (X.at I D L) := ⟨OK.sm.tab, OK.sm.ins⟩
theorem kp_aft (R : FrR X hs N₀ env k.vars ρ W s.heap) {σ' : M} {mv : Nat} {nm : Str} {xs : List Int} {I D L : Addr} (hi : k.vars[mv]? = some nm) (hv : ρ.at mv = some (.own xs)) (va : VarAt env s.heap nm (.ref L)) (hD : hs D = none) {oD : Obj} {es : Array DictEntry} {ep : Nat} (eD : s.heap.get? D = some oD) (dD : oD.data = .dict es ep) (lD : D ≠ env.locals)
    (kp : Kp [D, L] s s') (M' : Mr (X.at I D L) σ' s'.heap) (z : σ'.mem.length ≤ lim) (hd : ∀ j nj σ mv I' D' L' xs nm, k.vars[j]? = some nj → ρ.at j = some (.mpu σ mv) → VarAt env s.heap nj (.ref I') → Mch X hs env k.vars ρ s.heap I' D' L' xs nm σ mv → D' ≠ D) :
    Aft X hs N₀ env k.vars W s (ρ.set mv (some (.own σ'.mem))) W s' ∧ ∀ n y, VarAt env s.heap n y → VarAt env s'.heap n y := by
  obtain ⟨y, vb, a', its, e, w, l, i0, z0⟩ := R.rd.var mv nm _ hi hv
  have := va.unique vb
  rw [e] at this; (injection this with this; subst this)
  obtain ⟨its', l', ia⟩ := M'.mem
  obtain ⟨oD', _, _, eD', _⟩ := M'.parts
  obtain ⟨h', t', rfl, aw⟩ := kp
  have keep : KeepZ (fun b => b = L ∨ b = D) s.heap h' := fun b o q e => aw b o e (by simp only [List.mem_cons, List.not_mem_nil, or_false]; exact fun z => q z.symm)
  have cD : ∀ n c, env.cells.lookup n = some c → c ≠ D := fun n c hc q => by
    obtain ⟨_, v, o1, e1, d1⟩ := R.celN n c hc
    rw [q, eD] at e1; (injection e1 with e1; subst e1); rw [dD] at d1; injection d1
  have sD : isStore oD = true := by unfold isStore; rw [dD]
  have zs : ∀ b o, s.heap.get? b = some o → isStore o = false → b ≠ D := fun b o e st q => by rw [q, eD] at e; (injection e with e; subst e); rw [sD] at st; injection st
  obtain ⟨oa, ea, sa, _⟩ := list_store l.isList
  have nst : ∀ {b o}, s.heap.get? b = some o → isStore o = true → b ≠ L := fun e st q => by rw [q, ea] at e; (injection e with e; subst e); rw [sa] at st; injection st
  refine ⟨⟨own_move (Z := fun b => b = D) R hi hv va l' ia z keep (fun b q => q ▸ hD) (Ne.symm lD) cD zs hd, fun _ w => .inl w, fun b o e n st => keep b o (fun q => by rcases q with q | q; exact n (q ▸ w); exact zs b o e st q) e, fun b o e => ?_, ⟨h', t', rfl⟩⟩, fun n y v => v.move keep (fun q => ?_) fun n c hc q => ?_⟩
  · by_cases q : b = L
    · subst q; obtain ⟨o', _, e', _⟩ := l'; exact ⟨o', e'⟩
    · by_cases q2 : b = D
      · exact ⟨oD', q2 ▸ eD'⟩
      · exact ⟨o, keep b o (fun z => by rcases z with z | z; exact q z; exact q2 z) e⟩
  · obtain ⟨m, ns⟩ := R.locNs
    obtain ⟨o, eo, so⟩ := store_dict ns
    rcases q with q | q
    · exact nst eo so q
    · exact lD q.symm
  · obtain ⟨_, v, hcell⟩ := R.celN n c hc
    obtain ⟨o, eo, so⟩ := store_cell hcell
    rcases q with q | q
    · exact nst eo so q
    · exact cD n c hc q
theorem at_unset {v j : Nat} {x : LV} (q : LLoc.at (ρ.set v none) j = some x) : j ≠ v ∧ ρ.at j = some x := by
  by_cases e : j = v
  · subst e
    unfold LLoc.at at q
    rw [List.getElem?_set, if_pos rfl] at q
    split at q <;> injection q
  · rw [LLoc.at_ne e] at q
    exact ⟨e, q⟩
theorem mach_aft (R : FrR X hs N₀ env k.vars ρ W s.heap) {v mv : Nat} {n nm : Str} {σ σ' : M} {xs : List Int} {I D L : Addr} (hn : k.vars[v]? = some n) (hv : ρ.at v = some (.mpu σ mv)) (va : VarAt env s.heap n (.ref I)) (M : Mch X hs env k.vars ρ s.heap I D L xs nm σ mv) (M' : Mr (X.at I D L) σ' s'.heap) (kp : Kp [D, L] s s') (hz : σ'.mem.length ≤ lim)
    (hb : backL ρ v mv σ' = some ρ') : Aft X hs N₀ env k.vars W s ρ' W s' := by
  refine bind_el hb fun ρ₁ hset1 hset2 => ?_
  obtain ⟨hlt1, rfl⟩ := setL_of hset1
  obtain ⟨hlt2, rfl⟩ := setL_of hset2
  have hvm : mv ≠ v := fun q => by have := M.own; rw [q, hv] at this; cases this
  obtain ⟨oD, es, ep, eD, _, dD⟩ := M.mr.parts
  have F0 := R.put v none hn (fun xs q => by rw [hv] at q; cases q) (fun _ q => nomatch q) (fun _ q => nomatch q)
  obtain ⟨A1, vm⟩ := kp_aft F0 M.nam (by rw [LLoc.at_ne hvm]; exact M.own) M.vL M.hD eD dD M.Dl kp M' hz fun j nj τ m I' D' L' xs' nm' hj hu vI M2 q => by
    obtain ⟨qj, hu⟩ := at_unset hu
    have e1 : s.heap.get? I' = some (instObj X.x.C D') := M2.mr.inst
    exact qj (R.mchD j v nj n τ σ m mv I' I D hj hn hu hv vI va (q ▸ e1) M.mr.inst)
  have eq : ((ρ.set v none).set mv (some (.own σ'.mem))).set v (some (.mpu { σ' with mem := [] } mv)) = (ρ.set mv (some (.own σ'.mem))).set v (some (.mpu { σ' with mem := [] } mv)) := by rw [List.set_comm none _ (Ne.symm hvm), List.set_set]
  have atv : LLoc.at ((ρ.set v none).set mv (some (.own σ'.mem))) v = none := by
    rw [LLoc.at_ne (Ne.symm hvm)]
    cases q : LLoc.at (ρ.set v none) v with
    | none => rfl
    | some _ => exact absurd rfl (at_unset q).1
  refine ⟨eq ▸ A1.fr.put v _ hn (fun xs q => by rw [atv] at q; injection q) (fun _ q => by (injection q with q; subst q); rfl) fun u e => ?_, A1.new, A1.evo, A1.live, A1.ks⟩
  (injection e with e; subst e)
  refine ⟨_, _, _, rfl, vm _ _ va, hvm, I, D, L, σ'.mem, nm, rfl, ⟨LLoc.at_self (by rw [List.length_set]; exact hlt1), M.nam, vm _ _ M.vL, M', M.hD, M.d0, M.l0, M.Dl⟩, fun j nj τ m J qj hj hu vJ e => ?_⟩
  obtain ⟨J', D', L', ys, nm', vJ', M2⟩ := A1.fr.rd.mach j nj τ m hj hu
  cases vJ.unique vJ'
  have e2 : s'.heap.get? J = some (instObj X.x.C D') := M2.mr.inst
  rw [e2] at e
  obtain rfl : D' = D := by injection e with e; injection e with _ e; injection e
  by_cases qm : j = mv
  · subst qm; rw [LLoc.at_self (by rw [List.length_set]; exact hlt1)] at hu; cases hu
  rw [LLoc.at_ne qm] at hu
  obtain ⟨_, hu⟩ := at_unset hu
  obtain ⟨J2, D2, L2, zs, nm2, vJ2, M3⟩ := R.rd.mach j nj τ m hj hu
  cases (vm _ _ vJ2).unique vJ
  have e3 : s.heap.get? J = some (instObj X.x.C D2) := M3.mr.inst
  have e4 : s'.heap.get? J = some (instObj X.x.C D2) := by
    obtain ⟨h', t', rfl, aw⟩ := kp
    refine aw _ _ e3 fun q => ?_
    rcases List.mem_cons.mp q with q | q
    · rw [q] at e3; rw [show s.heap.get? D' = some oD from eD] at e3; (injection e3 with e3; subst e3); injection dD
    · obtain ⟨its, ⟨o, _, eo, _, _, d⟩, _⟩ := M.mr.mem
      have eo : s.heap.get? L = some o := eo
      rw [List.mem_singleton.mp q, eo] at e3; (injection e3 with e3; subst e3); injection d
  rw [e2] at e4
  obtain rfl : D' = D2 := by injection e4 with e; injection e with _ e; injection e
  exact qj (R.mchD j v nj n τ σ m mv J I D' hj hn hu hv vJ2 va e3 M.mr.inst)
theorem mach_call (OK : LOk X) (EF : EnvF env k) {d : Nat} (ao : AOk A (d + deep)) (R : FrR X hs N₀ env k.vars ρ W s.heap) {v m : Nat} {n : Str} {md : MethD} {bp ap p : Pos} (hn : k.vars[v]? = some n) (hmd : X.x.c.P[m]? = some md) (hl : ap.endLine = p.line) (hs' : stepL X.x.c ρ v m = some ρ')
    {Q : Value → Shared → Prop} (h : ∀ y s', Aft X hs N₀ env k.vars W s ρ' W s' → Q y s') : wpAny (model X.x.prog X.x.w) A (eval (.Call (.Attribute (.Name n bp) md.nm ap) [] [] p) env) Q E' s := by
  refine Classical.byContradiction fun hHid => ?_
  obtain ⟨u, hv, hs'⟩ := bind_of hs'
  obtain ⟨⟨σ, mv⟩, hu, hs'⟩ := bind_of hs'
  obtain ⟨w, hw, hs'⟩ := bind_of hs'
  obtain ⟨xs, hxs, hs'⟩ := bind_of hs'
  obtain ⟨⟨r, σ'⟩, hc, hs'⟩ := bind_of hs'
  obtain ⟨hz, hb⟩ := cond_of hs'
  clear hs'
  cases LV.mpu?_of hu
  cases LV.own?_of hxs
  obtain ⟨I, D, L, xs', nm, va, M⟩ := R.rd.mach v n σ mv hn hv
  cases hw.symm.trans M.own
  have O := OK.ok I D L M.d0 M.l0 M.mr.apart
  refine hHid ?_
  clear hHid
  show wpAny _ _ (eval (.Name n bp) env >>= fun ov => standAt ap.atName >>= fun _ => methodCall (.Name n bp) md.nm ap p env ov 0 (backTo p (starEach [] env)) []) _ _ _
  refine wpAny_bind (load_at EF.el hn va (wpAny_bind (wpAny_standAt ?_)))
  unfold methodCall calleeOf methodCallPos
  rw [show methodCallForm 0 (backTo p (starEach [] env)) [] = true from rfl]
  have q : (ap.endLine == p.line) = true := by rw [hl]; exact beq_self_eq_true _
  simp only [if_true, Bool.not_true, Bool.false_or, q]
  refine wpAny_bind (wpAny_holding (meth_of (x := X.at I D L) O M.mr hmd (wpAny_bind (wpAny_pure ?_))))
  obtain ⟨fd, _, hk, _⟩ := (O.meth m md hmd).fd
  exact callWith_meth0 rfl (M.mr.stays _ _ (O.X _ _ hk)) (wpAny_call ((sound_call O (small_at OK I D L) deep A (by have := ao.dp; lia)).ok m [] _ r σ' hc s [] _ M.mr .nil fun y s' M' _ kp => h y s' (mach_aft R hn hv va M M' kp (Nat.le_of_ble_eq_true hz) hb)))
end
end Mine

end
section
open PySem PySem.W PyProof.Rows
set_option maxRecDepth 100000
set_option maxHeartbeats 1000000
set_option linter.unusedSimpArgs false
set_option linter.unusedVariables false
namespace Mine
section
variable {X : LX} {hs : Addr → Option Obj} {N₀ : Addr → Prop} {env : Env} {k : LC} {ρ ρ' ρ'' : LLoc} {W W' W'' : Addr → Prop} {s s' s'' : Shared} {A : Around} {E' : Value → Shared → Prop} {h : Heap} {cf : Nat → List LV → Option LV}
theorem weight_tc (C : Addr) (rest : List Value) (kw : List (Str × Value)) : (Code.builtin "type.__call__" ⟨.ref C :: rest, kw⟩).weight ≤ 1 := by
  have g : (Code.builtin "type.__call__" ⟨.ref C :: rest, kw⟩).weight = 1 := by
    first | rfl | kernel_rfl
  rw [g]; exact Nat.le_refl _
theorem toV_rp {x : Cx} {N : Addr → Prop} {v : LV} {y : Value} {p : V} (r : RV N h v y) (hp : toV v = some p) {h' : Heap} : Rp x h' p y := by
  cases v with
  | «at» a => cases a <;> cases hp <;> exact r
  | _ => injection hp
theorem mk_unset {x : Cx} {hh : Heap} {xs : List Int} {its : Array Value} (hb : ∀ b o, x.h₀.get? b = some o → hh.get? b = some o) (hI : x.I = hh.objs.size + 1) (hD : x.D = hh.objs.size) (l : PlainL hh x.L its) (ia : IntsAre its.toList xs) (z : xs.length ≤ lim) :
    Mr x { unsetM with mem := xs } ((hh.push emptyDict).push (instObj x.C hh.objs.size)) := by
  refine ⟨fun b o e => Heap.get?_push_of_some _ (Heap.get?_push_of_some _ (hb b o e)), ?_, ⟨fun _ => none, ?_, fun f => ?_, fun n _ => rfl⟩, ⟨its, (l.keeps fun _ _ e => Heap.get?_push_of_some _ (Heap.get?_push_of_some _ e)), ia⟩, Nat.lt_of_le_of_lt z (by decide)⟩
  · rw [hI, hD]
    have : (hh.push emptyDict).objs.size = hh.objs.size + 1 := Heap.size_push ..
    rw [← this]
    exact Heap.get?_push_size _ rfl
  · rw [hD]
    refine Heap.Ns1.of_empty ?_
    have n0 : (hh.push emptyDict).Ns hh.objs.size (fun _ => none) := Heap.Ns.new hh (.type "dict")
    exact n0.keeps fun _ _ e => Heap.get?_push_of_some _ e
  · cases f <;> rfl
theorem mk_mach (OK : LOk X) (EF : EnvF env k) {d : Nat} (ao : AOk A (d + deep + 2)) (hcf : CallLOk X A cf) (R : FrR X hs N₀ env k.vars ρ W s.heap) {v mv : Nat} {e : LE} {pcv : LV} {n nm : Str} {ex : PySem.Expr} {p1 p2 p3 p4 p5 : Pos} {kp1 kp2 : Pos} (hn : k.vars[v]? = some n) (hnm : k.vars[mv]? = some nm) (hg : env.kindOf "MPU" = some .globalImplicit)
    (ht : trL X.F k e ex = true) (he : evL cf e ρ = some pcv) (hs' : mkL X.x.c X.im ρ v mv pcv = some ρ') {Q : Flow → Shared → Prop} (hq : ∀ s', Aft X hs N₀ env k.vars W s ρ' W s' → Q .next s') :
    wpAny (model X.x.prog X.x.w) A (exec (.Assign [.Name n p1] (.Call (.Name "MPU" p2) [] [⟨some "memory", .Name nm p3, kp1⟩, ⟨some "pc", ex, kp2⟩] p4) p5) env) Q E' s := by
  refine Classical.byContradiction fun hHid => ?_
  obtain ⟨w, hw, hs'⟩ := bind_of hs'
  obtain ⟨xs, hxs, hs'⟩ := bind_of hs'
  obtain ⟨pv, hpv, hs'⟩ := bind_of hs'
  obtain ⟨⟨r, σ'⟩, hc, hs'⟩ := bind_of hs'
  obtain ⟨hz, hb⟩ := cond_of hs'
  clear hs'
  cases LV.own?_of hxs
  refine hHid ?_
  clear hHid
  refine and_el hz fun hz hle => ?_
  refine and_el hz fun hz hne => ?_
  refine and_el hz fun hr hfr => ?_
  have hzz : σ'.mem.length ≤ lim := Nat.le_of_ble_eq_true hle
  have hvm : v ≠ mv := fun q => by rw [q, Nat.beq_refl] at hne; injection hne
  obtain rfl : r = .none := by cases r <;> first | rfl | injection hr
  refine bind_el hb fun ρ₁ hset1 hset2 => ?_
  obtain ⟨hlt1, rfl⟩ := setL_of hset1
  have KI : X.x.K.In s.heap := fun b o e => R.rd.base _ _ ((OK.ok 0 X.x.h₀.objs.size (X.x.h₀.objs.size + 1) fresh_size (by
    cases q : X.x.h₀.get? (X.x.h₀.objs.size + 1) with
    | none => rfl
    | some o => exact absurd (Heap.lt_size q) (Nat.not_lt.mpr (Nat.le_succ _))) (Nat.ne_of_lt (Nat.lt_succ_self _))).X b o e)
  refine wpAny_Assign_Name ?_
  show wpAny _ _ (do callWith p4 (← eval (.Name "MPU" p2) env) [] (backTo p4 (starEach [] env)) (backToKw p4 (keywordEach [⟨some "memory", .Name nm p3, kp1⟩, ⟨some "pc", ex, kp2⟩] env))) _ _ s
  refine wpAny_bind (load_global EF.el (OK.g.keeps R.rd.base) hg OK.mpu (by decide) ?_)
  refine callWith_KW0 KI OK.keep rfl (kwAll_cons (load_own R.rd EF.el hnm hw fun L its vL wL lL iL zL => kwAll_cons ((sound_L OK ao hcf e).1 k env ρ hs N₀ W ex pcv ht he EF.el EF.ko R.len s _ _ R.rd fun py s₁ rp k₁ => kwAll_nil ?_)))
  refine ⟨fun b o e => k₁.grow _ _ (KI b o e), wpAny_call ?_⟩
  obtain ⟨hh, gens, dr, tk, os⟩ := s₁
  have KI₁ : X.x.K.In hh := fun b o e => k₁.grow _ _ (KI b o e)
  have R₁ := R.grow k₁.grow
  have lL₁ : PlainL hh L its := lL.keeps k₁.grow
  refine make_core (makes_of KI₁ OK.makes) (looks_findIn KI₁ OK.init) (fun self => bind_fn KI₁ self OK.initT) (.inl rfl) ?_
  have new : ∀ {f : Addr → Option Obj}, (∀ b o, f b = some o → hh.get? b = some o) → f hh.objs.size = none := fun {f} hf => by
    cases q : f hh.objs.size with
    | none => rfl
    | some o => exact absurd (Heap.lt_size (hf _ _ q)) (Nat.lt_irrefl _)
  have hL0 : X.x.h₀.get? L = none := by
    cases q : X.x.h₀.get? L with
    | none => rfl
    | some o => have := R.wnew L wL; rw [R.up _ _ q] at this; injection this
  have Dlt : ∀ {b : Addr} {o : Obj}, hh.get? b = some o → hh.objs.size ≠ b := fun e q => by rw [← q] at e; exact absurd (Heap.lt_size e) (Nat.lt_irrefl _)
  have nDL : hh.objs.size ≠ L := by obtain ⟨o, _, e, _⟩ := lL₁; exact Dlt e
  have O := OK.ok (hh.objs.size + 1) hh.objs.size L (new R₁.rd.base) hL0 nDL
  have M0 : Mr (X.at (hh.objs.size + 1) hh.objs.size L) { unsetM with mem := xs } ((hh.push emptyDict).push (instObj X.x.C hh.objs.size)) := mk_unset (x := X.at (hh.objs.size + 1) hh.objs.size L) R₁.rd.base rfl rfl lL₁ iL zL
  have hdep : (A.under (.builtin "type.__call__" ⟨.ref X.x.C :: [], [("memory", .ref L), ("pc", py)]⟩)).depth + deep ≤ recursionLimit := by
    show A.depth + _ + deep ≤ _
    have := weight_tc X.x.C [] [("memory", .ref L), ("pc", py)]
    have := ao.dp
    lia
  refine call_args (x := X.at (hh.objs.size + 1) hh.objs.size L) (d := 11) O (small_at OK _ _ _) hdep (fun A' h' => sound_call O (small_at OK _ _ _) 11 A' h') (vals := [.ref L, py]) hc (fun fd md hm hk hlen => OK.initB _ fd md (.ref (hh.objs.size + 1)) (.ref L) py hm hk (fun b o e => Heap.get?_push_of_some _ (Heap.get?_push_of_some _ (KI₁ b o e)))) M0 (.cons rfl (.cons (toV_rp rp hpv) .nil)) fun y s' M' ry kp => ?_
  obtain rfl : y = .none := ry
  refine ⟨rfl, ?_⟩
  -- the frame behind __init__
  have g2 : Kg s ⟨(hh.push emptyDict).push (instObj X.x.C hh.objs.size), gens, dr, tk, os⟩ := k₁.trans ((Kg.push' (s := ⟨hh, gens, dr, tk, os⟩)).trans .push')
  have R₂ := R.grow g2.grow
  have hDl : hh.objs.size ≠ env.locals := by obtain ⟨m, o, es, ep, e, _⟩ := R₁.locNs; exact Dlt e
  have eD : ((hh.push emptyDict).push (instObj X.x.C hh.objs.size)).get? hh.objs.size = some emptyDict := Heap.get?_push_of_some _ (Heap.get?_push_size _ rfl)
  -- the machines of before have other dicts
  have far : ∀ j nj σ m I', k.vars[j]? = some nj → ρ.at j = some (.mpu σ m) → VarAt env ((hh.push emptyDict).push (instObj X.x.C hh.objs.size)) nj (.ref I') → ∃ D', hh.get? I' = some (instObj X.x.C D') ∧ D' ≠ hh.objs.size ∧ I' ≠ hh.objs.size ∧ I' ≠ L := fun j nj σ m I' hj hu vI => by
    obtain ⟨J, D', L', ys, nm', vJ, M⟩ := R₁.rd.mach j nj σ m hj hu
    cases vI.unique (vJ.grow fun _ _ e => Heap.get?_push_of_some _ (Heap.get?_push_of_some _ e))
    obtain ⟨o, _, _, e, _⟩ := M.mr.parts
    have e : hh.get? D' = some o := e
    have eI : hh.get? I' = some (instObj X.x.C D') := M.mr.inst
    refine ⟨D', eI, Ne.symm (Dlt e), Ne.symm (Dlt eI), fun q => ?_⟩
    obtain ⟨o, _, eo, _, _, d⟩ := lL₁
    rw [q, eo] at eI; cases eI; cases d
  obtain ⟨A1, vm⟩ := kp_aft (I := hh.objs.size + 1) R₂ hnm hw (vL.grow g2.grow) (new R₁.hb) eD rfl hDl kp M' hzz fun j nj σ m I' D' L' ys nm' hj hu vI M q => by
    obtain ⟨D2, e2, n2, _⟩ := far j nj σ m I' hj hu vI
    have e3 : ((hh.push emptyDict).push (instObj X.x.C hh.objs.size)).get? I' = some (instObj X.x.C D') := M.mr.inst
    rw [Heap.get?_push_of_some _ (Heap.get?_push_of_some _ e2)] at e3
    injection e3 with e3; injection e3 with _ e3; injection e3 with e3
    exact n2 (e3.trans q)
  have hset2' := hset2
  obtain ⟨hlt2, rfl⟩ := setL_of hset2
  have frv : free (ρ.set mv (some (.own σ'.mem))) v = true := by
    refine List.all_eq_true.mpr fun o ho => ?_
    rcases List.mem_or_eq_of_mem_set ho with h | h
    · exact List.all_eq_true.mp hfr o h
    · rw [h]; rfl
  refine stored_aft EF A1.fr hn frv hset2' trivial (fun _ q => absurd q Bool.false_ne_true) (fun σ₀ mv₀ q => ?_) fun s'' A2 => hq s'' ((Aft.of_kg R g2).trans (A1.trans A2))
  cases q
  refine ⟨Ne.symm hvm, hh.objs.size + 1, hh.objs.size, L, σ'.mem, nm, rfl, ⟨LLoc.at_self hlt1, hnm, vm _ _ (vL.grow g2.grow), M', new R₁.hb, new R₁.rd.base, hL0, hDl⟩, fun j nj τ m J qj hj hu vJ e => ?_⟩
  by_cases qm : j = mv
  · subst qm; rw [LLoc.at_self hlt1] at hu; cases hu
  rw [LLoc.at_ne qm] at hu
  obtain ⟨J2, D2, L2, zs, nm2, vJ2, _⟩ := R₂.rd.mach j nj τ m hj hu
  cases (vm _ _ vJ2).unique vJ
  obtain ⟨D', e2, n2, n3, n4⟩ := far j nj τ m J hj hu vJ2
  obtain ⟨h', t', rfl, aw⟩ := kp
  have e3 := aw J _ (Heap.get?_push_of_some (instObj X.x.C hh.objs.size) (Heap.get?_push_of_some emptyDict e2)) (by simp only [List.mem_cons, List.not_mem_nil, or_false, not_or]; exact ⟨n3, n4⟩)
  rw [e] at e3
  injection e3 with e3; injection e3 with _ e3; injection e3 with e3
  exact n2 e3.symm
end
end Mine

end
section
open PySem PySem.W PyProof.Rows
set_option maxRecDepth 100000
set_option maxHeartbeats 1000000
set_option linter.unusedSimpArgs false
set_option linter.unusedVariables false
set_option linter.unusedSectionVars false
namespace Mine
noncomputable def FlL (N₀ W' : Addr → Prop) (h : Heap) : LFl → Flow → Prop
  | .next, f => f = .next
  | .brk, f => f = .brk
  | .ret v, f => ∃ y, f = .ret y ∧ RV N₀ h v y
section
variable (X : LX) (A : Around) (cf : Nat → List LV → Option LV)
noncomputable def GoodSt (st : LS) : Prop := ∀ (k : LC) (env : Env) (ρ : LLoc) (hs : Addr → Option Obj) (N₀ W : Addr → Prop) (t : Stmt) (fl : LFl) (ρ' : LLoc), trLS X.x.c X.F k st t = true → exL X.x.c X.im X.fuel cf st ρ = some (fl, ρ') → EnvF env k →
  ∀ (s : Shared) (Q : Flow → Shared → Prop) (E' : Value → Shared → Prop), FrR X hs N₀ env k.vars ρ W s.heap → (∀ f W' s', Aft X hs N₀ env k.vars W s ρ' W' s' → FlL N₀ W' s'.heap fl f → Q f s') → wpAny (model X.x.prog X.x.w) A (exec t env) Q E' s
noncomputable def GoodSts (st : LSs) : Prop := ∀ (k : LC) (env : Env) (ρ : LLoc) (hs : Addr → Option Obj) (N₀ W : Addr → Prop) (t : List Stmt) (fl : LFl) (ρ' : LLoc), trLSs X.x.c X.F k st t = true → exLs X.x.c X.im X.fuel cf st ρ = some (fl, ρ') → EnvF env k →
  ∀ (s : Shared) (Q : Flow → Shared → Prop) (E' : Value → Shared → Prop), FrR X hs N₀ env k.vars ρ W s.heap → (∀ f W' s', Aft X hs N₀ env k.vars W s ρ' W' s' → FlL N₀ W' s'.heap fl f → Q f s') → wpAny (model X.x.prog X.x.w) A (execs t env) Q E' s
end
section
variable {X : LX} {A : Around} {cf : Nat → List LV → Option LV} (OK : LOk X) {d : Nat} (ao : AOk A (d + deep + 2)) (hcf : CallLOk X A cf)
theorem notComp_swaps {e : PySem.Expr} (h : notComp e = true) (t : Option PySem.Expr) (n : Nat) (env : Env) : swapsWith e t n env = pure false := by
  cases e <;> first | rfl | injection h
include OK ao hcf
theorem s_asg (v : Nat) (e : LE) : GoodSt X A cf (.asg v e) := by
  intro k env ρ hs N₀ W t fl ρ' ht he EF s Q E' R h
  refine inv_trLS_asg ht fun _ _ _ _ hx₀ ht => ?_
  subst hx₀
  refine and_el ht fun ht hx => ?_
  refine and_el ht fun ht hst => ?_
  refine and_el ht fun hv hc => ?_
  refine bind_el he fun x hev he => ?_
  obtain ⟨ρ₁, hp, e'⟩ := map_of he
  cases e'
  refine wpAny_Assign_Name ((sound_L OK ao hcf e).1 k env ρ hs N₀ W _ x hx hev EF.el EF.ko R.len s _ _ R.rd fun y s₁ r k₁ => ?_) (notComp_swaps hc _ _ _)
  exact store_val EF (R.grow k₁.grow) (isVarL_of hv) hp (r.unfl hst) fun s' a => h _ _ s' ((Aft.of_kg R k₁).trans a) rfl
theorem s_newl (v : Nat) (e : LE) : GoodSt X A cf (.newl v e) := by
  intro k env ρ hs N₀ W t fl ρ' ht he EF s Q E' R h
  refine inv_trLS_newl ht fun _ _ _ _ hx₀ ht => ?_
  subst hx₀
  refine and_el ht fun ht hx => ?_
  refine and_el ht fun ht hfr => ?_
  refine and_el ht fun hv hc => ?_
  refine bind_el he fun x hev he => ?_
  refine bind_el he fun xs hxs he => ?_
  obtain ⟨hf, he⟩ := cond_of he
  obtain ⟨ρ₁, hp, e'⟩ := map_of he
  cases e'
  cases LV.ints?_of hxs
  exact wpAny_Assign_Name (sound_F OK ao hcf e hfr k env ρ hs N₀ W _ _ hx hev EF.el EF.ko R.len s _ _ R.rd fun y s₁ r k₁ nw => store_own EF R k₁ (isVarL_of hv) hf hp r nw fun W' s' a => h _ W' s' a rfl) (notComp_swaps hc _ _ _)
omit hcf in
theorem s_step (v m : Nat) : GoodSt X A cf (.step v m) := by
  intro k env ρ hs N₀ W t fl ρ' ht he EF s Q E' R h
  refine inv_trLS_step ht fun _ _ _ _ _ _ hx₀ ht => ?_
  subst hx₀
  refine and_el ht fun ht hl => ?_
  refine and_el ht fun hv hm => ?_
  obtain ⟨md, hmd, rfl⟩ := isMeth_of hm
  obtain ⟨ρ₁, hp, e'⟩ := map_of he
  cases e'
  have hi : interactive env = false := by show (env.scope.kind == .module && _) = false; rw [EF.el.kind]; rfl
  exact wpAny_Expr_any (mach_call (d := d + 2) OK EF (by have := ao; rwa [show d + deep + 2 = d + 2 + deep by lia] at this) R (isVarL_of hv) hmd (beq_iff_eq.mp hl) hp fun y s' a => h _ _ s' a rfl) hi
theorem s_mk (v mv : Nat) (e : LE) : GoodSt X A cf (.mk v mv e) := by
  intro k env ρ hs N₀ W t fl ρ' ht he EF s Q E' R h
  refine inv_trLS_mk ht fun _ _ _ _ _ _ _ _ _ _ _ _ _ hx₀ ht => ?_
  subst hx₀
  refine and_el ht fun ht hx => ?_
  refine and_el ht fun ht hp => ?_
  refine and_el ht fun ht hmv => ?_
  refine and_el ht fun ht h5 => ?_
  refine and_el ht fun ht h4 => ?_
  refine and_el ht fun ht hg => ?_
  refine and_el ht fun hv h2 => ?_
  cases beq_iff_eq.mp h2
  cases beq_iff_eq.mp h4
  cases beq_iff_eq.mp h5
  refine bind_el he fun x hev he => ?_
  obtain ⟨ρ₁, hmk, e'⟩ := map_of he
  cases e'
  exact mk_mach OK EF ao hcf R (isVarL_of hv) (isVarL_of hmv) (EF.ko.g _ (isGlob_of hg)) hx hev hmk fun s' a => h _ _ s' a rfl
theorem s_ret (e : LE) : GoodSt X A cf (.ret e) := by
  intro k env ρ hs N₀ W t fl ρ' ht he EF s Q E' R h
  refine inv_trLS_ret ht fun _ _ hx₀ ht => ?_
  subst hx₀
  refine and_el ht fun hst hx => ?_
  obtain ⟨x, hev, e'⟩ := map_of he
  cases e'
  exact wpAny_Return_some ((sound_L OK ao hcf e).1 k env ρ hs N₀ W _ x hx hev EF.el EF.ko R.len s _ _ R.rd fun y s₁ r k₁ => h _ W s₁ (Aft.of_kg R k₁) ⟨y, rfl, (r.unfl hst).weak fun _ _ q => .inl q⟩)
omit OK ao hcf in
theorem s_reto (v : Nat) : GoodSt X A cf (.reto v) := by
  intro k env ρ hs N₀ W t fl ρ' ht he EF s Q E' R h
  refine inv_trLS_reto ht fun n q y1 hx₀ hv => ?_
  subst hx₀
  refine bind_el he fun u hu he => ?_
  obtain ⟨xs, hxs, e'⟩ := map_of he
  cases e'
  cases LV.own?_of hxs
  exact wpAny_Return_some (load_own R.rd EF.el (isVarL_of hv) hu fun a its va wa l ia z => h _ W s (.refl R) ⟨_, rfl, a, its, rfl, fun q => R.n0 a q (R.wnew a wa), l.isList, ia, z⟩)
omit OK ao hcf in
theorem s_brk : GoodSt X A cf .brk := by
  intro k env ρ hs N₀ W t fl ρ' ht he EF s Q E' R h
  refine inv_trLS_brk ht fun _ hx₀ ht => ?_
  subst hx₀
  (injection he with he; injection he with he hz; subst he; subst hz)
  exact wpAny_Break (h _ W s (.refl R) rfl)
theorem s_ite {t : LE} {a b : LSs} (ga : GoodSts X A cf a) (gb : GoodSts X A cf b) : GoodSt X A cf (.ite t a b) := by
  intro k env ρ hs N₀ W st fl ρ' ht he EF s Q E' R h
  refine inv_trLS_ite ht fun _ _ _ _ hx₀ ht => ?_
  subst hx₀
  refine and_el ht fun ht hb => ?_
  refine and_el ht fun hx ha => ?_
  refine bind_el he fun x hev he => ?_
  refine bind_el he fun q hv he => ?_
  refine wpAny_If ((sound_L OK ao hcf t).2 k env ρ hs N₀ W _ x q hx hev hv EF.el EF.ko R.len s _ _ R.rd fun s₁ k₁ => ?_)
  cases q
  · exact gb k env ρ hs N₀ W _ fl ρ' hb he EF s₁ _ _ (R.grow k₁.grow) fun f W' s' a r => h f W' s' ((Aft.of_kg R k₁).trans a) r
  · exact ga k env ρ hs N₀ W _ fl ρ' ha he EF s₁ _ _ (R.grow k₁.grow) fun f W' s' a r => h f W' s' ((Aft.of_kg R k₁).trans a) r
omit OK ao hcf in
theorem ss_nil : GoodSts X A cf .nil := by
  intro k env ρ hs N₀ W t fl ρ' ht he EF s Q E' R h
  cases t with
  | nil => (injection he with he; injection he with he hz; subst he; subst hz); exact wpAny_execs_nil (h _ W s (.refl R) rfl)
  | cons _ _ => injection ht
omit OK ao hcf in
theorem ss_cons {a : LS} {r : LSs} (ga : GoodSt X A cf a) (gr : GoodSts X A cf r) : GoodSts X A cf (.cons a r) := by
  intro k env ρ hs N₀ W t fl ρ' ht he EF s Q E' R h
  cases t with
  | nil => injection ht
  | cons x l =>
    refine and_el ht fun h1 h2 => ?_
    obtain ⟨⟨f₁, ρ₁⟩, h3, he⟩ := bind_of he
    refine wpAny_execs_cons (ga k env ρ hs N₀ W x _ _ h1 h3 EF s _ _ R fun f W₁ s₁ a₁ r₁ => ?_)
    cases f₁ with
    | next =>
      obtain rfl := r₁
      exact gr k env ρ₁ hs N₀ W₁ l fl ρ' h2 he EF s₁ _ _ a₁.fr fun f W' s' a₂ r₂ => h f W' s' (a₁.trans a₂) r₂
    | brk => (injection he with he; injection he with he hz; subst he; subst hz); obtain rfl := r₁; exact h _ W₁ s₁ a₁ rfl
    | ret v => (injection he with he; injection he with he hz; subst he; subst hz); obtain ⟨y, rfl, ry⟩ := r₁; exact h _ W₁ s₁ a₁ ⟨y, rfl, ry⟩
end
end Mine

end
section
open PySem PySem.W PyProof.Rows
set_option maxRecDepth 100000
set_option maxHeartbeats 1000000
set_option linter.unusedSimpArgs false
set_option linter.unusedVariables false
set_option linter.unusedSectionVars false
namespace Mine
section
variable {X : LX} {A : Around} {cf : Nat → List LV → Option LV} (OK : LOk X) {d : Nat} (ao : AOk A (d + deep + 2)) (hcf : CallLOk X A cf)
include OK ao hcf
theorem s_asgU (vs : List Nat) (e : LE) : GoodSt X A cf (.asgU vs e) := by
  intro k env ρ hs N₀ W t fl ρ' ht he EF s Q E' R h
  refine inv_trLS_asgU ht fun _ _ _ x0 _ hx₀ ht => ?_
  subst hx₀
  refine and_el ht fun ht hx => ?_
  refine and_el ht fun ht hc => ?_
  refine and_el ht fun ht hst => ?_
  refine and_el ht fun h1 h2 => ?_
  refine bind_el he fun x hev he => ?_
  obtain ⟨ρ₁, hp, e'⟩ := map_of he
  cases e'
  cases x0 <;> first | (cases hc; done) | skip
  refine Assign_Tuple ((sound_L OK ao hcf e).1 k env ρ hs N₀ W _ x hx hev EF.el EF.ko R.len s _ _ R.rd fun y s₁ r k₁ => ?_)
  exact bind_ok ao.hh EF (tg := .many vs) (Bool.and_eq_true_iff.mpr ⟨h1, tgs_pos h1 h2⟩) hp (R.grow k₁.grow) (r.unfl hst) fun s' a => h _ _ s' ((Aft.of_kg R k₁).trans a) rfl
end
end Mine

end
section
open PySem PySem.W PyProof.Rows
set_option maxRecDepth 100000
set_option maxHeartbeats 1000000
set_option linter.unusedSimpArgs false
set_option linter.unusedVariables false
set_option linter.unusedSectionVars false
namespace Mine
section
variable {X : LX} {A : Around} {cf : Nat → List LV → Option LV} (OK : LOk X) {d : Nat} (ao : AOk A (d + deep + 2)) (hcf : CallLOk X A cf)
include OK ao hcf
end
end Mine

end
section
open PySem PySem.W PyProof.Rows
set_option maxRecDepth 100000
set_option maxHeartbeats 1000000
set_option linter.unusedSimpArgs false
set_option linter.unusedVariables false
set_option linter.unusedSectionVars false
namespace Mine
section
variable {X : LX} {A : Around} {cf : Nat → List LV → Option LV} (OK : LOk X) {d : Nat} (ao : AOk A (d + deep + 2)) (hcf : CallLOk X A cf)
theorem evo_st {prog : Program} {w : World} {I : Addr} {fp wr : List Addr} {n : Nat} {P : Nat → Value → Prop} {St : Nat → Heap → Prop} (Wk : Walks prog w A I fp wr n P St) (stK : ∀ i (h : Heap) b o, St i h → b ∈ fp → h.get? b = some o → isStore o = false) {W : Addr → Prop} (nw : ∀ b ∈ fp, ¬ W b) {i : Nat} {h h' : Heap} (st : St i h) (e : Evo W h h') : St i h' :=
  Wk.frame i h h' st fun b hb o eo => e b o eo (nw b hb) (stK i h b o st hb eo)
noncomputable abbrev LoopQ (I : Nat → Shared → Prop) (n : Nat) (Q : Flow → Shared → Prop) : Flow → Shared → Prop := fun f s => match f with
  | .next | .cont => ∃ m, m < n ∧ I m s
  | .brk => Q .next s
  | .ret v => Q (.ret v) s
noncomputable def ForI (X : LX) (hs : Addr → Option Obj) (N₀ : Addr → Prop) (env : Env) (vars : List Str) (W : Addr → Prop) (s₀ : Shared) (St : Nat → Heap → Prop) (I : Addr) (items : List LV) (F : List LV → LLoc → Option (LFl × LLoc)) (r : LFl × LLoc) (n : Nat) (s : Shared) : Prop :=
  ∃ i ρ W₁, i ≤ items.length ∧ n = items.length - i ∧ F (items.drop i) ρ = some r ∧ St i s.heap ∧ ¬ W₁ I ∧ Aft X hs N₀ env vars W s₀ ρ W₁ s
include OK ao hcf
theorem s_for {tg : LTg} {src : LSrc} {b : LSs} (gb : GoodSts X A cf b) : GoodSt X A cf (.for tg src b) := by
  intro k env ρ hs N₀ W t fl ρ' ht he EF s Q E' R h
  refine inv_trLS_for ht fun tgx itx bodyx _ posx hx₀ ht => ?_
  subst hx₀
  refine and_el ht fun ht hbody => ?_
  refine and_el ht fun ht hsr => ?_
  refine and_el ht fun ho htg => ?_
  cases List.isEmpty_iff.mp ho
  refine bind_el he fun items hi he => ?_
  refine wpAny_For (sound_Src OK ao hcf src k env ρ hs N₀ W _ items hsr hi EF.el EF.ko R.len s _ _ R.rd fun it s₂ S => ?_) (fold_src hsr env)
  obtain ⟨I, fp, P, St, hp, rfl, hz, Wk, st, nI, g1, g2, kg, eI, hfp, hP, stK, itK, go⟩ := S
  have Rp := R.grow g1
  have nIW : ¬ W I := fun w => by obtain ⟨its, o, _, e, _⟩ := Rp.rd.lists I (.inr w); rw [nI] at e; injection e
  have hsI : hs I = none := by
    cases q : hs I with
    | none => rfl
    | some o => have := Rp.hb _ _ q; rw [nI] at this; injection this
  generalize e0 : ({ s₂ with heap := hp } : Shared) = s₀
  have h0 : s₀.heap = hp := e0 ▸ rfl
  have a0 : Aft X hs N₀ env k.vars W s₀ ρ W s₂ := e0 ▸ Aft.of_kg (s := { s₂ with heap := hp }) Rp ⟨s₂.heap, s₂.toks, rfl, g2⟩
  generalize eF : forL (bindTg tg) (fun ρ => exLs X.x.c X.im X.fuel cf b ρ) = F at he
  refine codeAny_forLoop_any (ForI X hs N₀ env k.vars W s₀ St I items F (fl, ρ')) ?_ items.length ⟨0, ρ, W, Nat.zero_le _, rfl, he, st, nIW, a0⟩
  have fin : ∀ {f W' s'}, Aft X hs N₀ env k.vars W s₀ ρ' W' s' → FlL N₀ W' s'.heap fl f → Q f s' := fun {f W' s'} a r => by
    subst e0
    refine h f W' s' ⟨a.fr, fun x w => ?_, fun x o e n st => a.evo x o (g1 x o e) n st, fun x o e => a.live x o (g1 x o e), ?_⟩ r
    · rcases a.new x w with q | q
      · exact .inl q
      · exact .inr (none_down g1 q)
    · obtain ⟨h1, t1, rfl, _⟩ := kg
      obtain ⟨h2, t2, rfl⟩ := a.ks
      exact ⟨h2, t2, rfl⟩
  rintro n s₃ ⟨i, ρ₁, W₁, hle, rfl, hf, st₃, nI₁, a₃⟩
  have nwf : ∀ b ∈ fp, ¬ W₁ b := fun b hb q => by
    rcases hfp b hb with rfl | ⟨o, e, _, nb⟩
    · exact nI₁ q
    · rcases a₃.new b q with z | z
      · exact nb z
      · rw [h0, e] at z; injection z
  -- the iterator goes on
  have next : ∀ (h' : Heap) (tk : Nat), (∀ b o, b ∉ [I] → s₃.heap.get? b = some o → h'.get? b = some o) → Aft X hs N₀ env k.vars W s₀ ρ₁ W₁ { s₃ with heap := h', toks := tk } := fun h' tk keep => by
    have keep' : ∀ b o, b ≠ I → s₃.heap.get? b = some o → h'.get? b = some o := fun b o q e => keep b o (fun z => q (List.mem_singleton.mp z)) e
    refine ⟨a₃.fr.offI keep' (itK i _ st₃) hsI, a₃.new, fun x o e n sto => keep' x o (fun q => by rw [h0, q, nI] at e; injection e) (a₃.evo x o e n sto), fun x o e => ?_, ?_⟩
    · obtain ⟨o', e'⟩ := a₃.live x o e
      exact ⟨o', keep' x o' (fun q => by rw [h0, q, nI] at e; injection e) e'⟩
    · obtain ⟨h2, t2, rfl⟩ := a₃.ks
      exact ⟨h', tk, rfl⟩
  by_cases hlt : i < items.length
  · refine Wk.item i s₃ _ _ hlt st₃ fun v h' tk hpv st₄ keep => ?_
    obtain ⟨lv, hlv, rlv⟩ := hP i v hpv
    have hdrop : items.drop i = lv :: items.drop (i + 1) := by
      rw [List.drop_eq_getElem_cons hlt]
      rw [List.getElem?_eq_getElem hlt] at hlv
      rw [Option.some.inj hlv]
    rw [hdrop, ← eF] at hf
    refine bind_el hf fun ρ₂ hbd hf => ?_
    obtain ⟨⟨f₁, ρ₃⟩, hex, hf⟩ := bind_of hf
    rw [eF] at hf
    have a₄ := next h' tk keep
    have rv₄ : RV (nn N₀ W₁) h' lv v := a₄.val (h0 ▸ Rp) (h0 ▸ rlv)
    have turn : ∀ E₁ E₂, wpAny (model X.x.prog X.x.w) A (assign tgx env v) (fun _ s₅ => wpAny (model X.x.prog X.x.w) A (execs bodyx env) (LoopQ (ForI X hs N₀ env k.vars W s₀ St I items F (fl, ρ')) (items.length - i) Q) E₁ s₅) E₂ { s₃ with heap := h', toks := tk } := fun E₁ E₂ => by
      refine bind_ok ao.hh EF htg hbd a₄.fr rv₄ fun s₅ a₅ => ?_
      have st₅ : St (i + 1) s₅.heap := evo_st Wk stK nwf st₄ a₅.evo
      refine gb k env ρ₂ hs N₀ W₁ _ f₁ ρ₃ hbody hex EF s₅ _ _ a₅.fr fun f W₂ s₆ a₆ r₆ => ?_
      have a₇ := a₄.trans (a₅.trans a₆)
      cases f₁ with
      | next =>
        obtain rfl := r₆
        refine ⟨items.length - (i + 1), by lia, i + 1, ρ₃, W₂, hlt, rfl, hf, evo_st Wk stK nwf st₅ a₆.evo, fun w => ?_, a₇⟩
        rcases a₆.new I w with q | q
        · exact nI₁ q
        · obtain ⟨o, _, e, _⟩ := itK _ _ st₅; rw [q] at e; injection e
      | brk => (injection hf with hf; injection hf with hf hz; subst hf; subst hz); obtain rfl := r₆; exact fin a₇ rfl
      | ret x => (injection hf with hf; injection hf with hf hz; subst hf; subst hz); obtain ⟨y, rfl, ry⟩ := r₆; exact fin a₇ ⟨y, rfl, ry⟩
    -- a tuple's own hand
    cases tg with
    | one w => revert turn; apply o_Name_elim htg; intro _ _ _ turn; exact wpAny_of_eq rfl (turn _ _)
    | many ws =>
      refine bind_el hbd fun xs hx _ => ?_
      cases LV.tup?_of hx
      obtain ⟨a, its, rfl, _⟩ := rv₄
      revert turn
      apply o_Tuple_elim htg; intro _ _ _ _ turn
      exact go (i + 1) _ a _ _ _ _ _ st₄ (turn _ _)
  · obtain rfl : i = items.length := Nat.le_antisymm hle (Nat.not_lt.mp hlt)
    rw [List.drop_length, ← eF] at hf
    (injection hf with hf; injection hf with hf hz; subst hf; subst hz)
    exact Wk.done s₃ _ _ st₃ fun h' tk keep => wpAny_execs_nil (fin (next h' tk keep) rfl)
end
end Mine

end
section
open PySem PySem.W PyProof.Rows
set_option maxRecDepth 100000
set_option maxHeartbeats 1000000
set_option linter.unusedSimpArgs false
set_option linter.unusedVariables false
set_option linter.unusedSectionVars false
namespace Mine
section
variable {X : LX} {A : Around} {cf : Nat → List LV → Option LV} (OK : LOk X) {d : Nat} (ao : AOk A (d + deep + 2)) (hcf : CallLOk X A cf)
theorem FrR.offII {hs : Addr → Option Obj} {N₀ : Addr → Prop} {env : Env} {k : LC} {ρ : LLoc} {W : Addr → Prop} {h h' : Heap} {I J : Addr} (R : FrR X hs N₀ env k.vars ρ W h) (keep : ∀ b o, b ≠ I → b ≠ J → h.get? b = some o → h'.get? b = some o)
    (kI : ∃ o vs, h.get? I = some o ∧ o.data = .fields vs ∧ o.cls ≠ .type "method") (hI : hs I = none) (kJ : ∃ o vs, h.get? J = some o ∧ o.data = .fields vs ∧ o.cls ≠ .type "method") (hJ : hs J = none) : FrR X hs N₀ env k.vars ρ W h' := by
  have ne1 : ∀ {I : Addr}, (∃ o vs, h.get? I = some o ∧ o.data = .fields vs ∧ o.cls ≠ .type "method") → ∀ {b : Addr} {o : Obj}, h.get? b = some o → (∀ vs, o.data ≠ .fields vs) → b ≠ I := fun {I} k {b} {o} e d q => by
    obtain ⟨oI, vs, eI, dI, cI⟩ := k
    rw [q, eI] at e; (injection e with e; subst e); exact d vs dI
  have ne : ∀ {b : Addr} {o : Obj}, h.get? b = some o → (∀ vs, o.data ≠ .fields vs) → ¬ (b = I ∨ b = J) := fun e d q => by
    rcases q with q | q
    · exact ne1 kI e d q
    · exact ne1 kJ e d q
  refine R.same (Z := fun b => b = I ∨ b = J) (fun b o q e => keep b o (fun z => q (.inl z)) (fun z => q (.inr z)) e) (fun b q => by rcases q with q | q; exact q ▸ hI; exact q ▸ hJ) ?_ (fun n c hc => ?_) (fun b o a n e d => ne e fun vs q => by rw [d] at q; injection q)
    (fun b f s e q => ?_) (fun b C D e => ne e fun vs q => nomatch q) (fun b m n => ?_)
  · obtain ⟨m, o, es, ep, e, d, _⟩ := R.locNs
    exact ne e fun vs q => by rw [d] at q; injection q
  · obtain ⟨_, v, o, e, d⟩ := R.celN n c hc
    exact ne e fun vs q => by rw [d] at q; injection q
  · rcases q with q | q
    · obtain ⟨oI, vs, eI, dI, cI⟩ := kI
      rw [q, eI] at e; (injection e with e; subst e); exact cI rfl
    · obtain ⟨oI, vs, eI, dI, cI⟩ := kJ
      rw [q, eI] at e; (injection e with e; subst e); exact cI rfl
  · obtain ⟨o, es, ep, e, d, _⟩ := n
    exact ne e fun vs q => by rw [d] at q; injection q
noncomputable def ForII (X : LX) (hs : Addr → Option Obj) (N₀ : Addr → Prop) (env : Env) (vars : List Str) (W : Addr → Prop) (s₀ : Shared) (St : Nat → Heap → Prop) (I J : Addr) (items : List LV) (F : List LV → LLoc → Option (LFl × LLoc)) (r : LFl × LLoc) (n : Nat) (s : Shared) : Prop :=
  ∃ i ρ W₁, i ≤ items.length ∧ n = items.length - i ∧ F (items.drop i) ρ = some r ∧ St i s.heap ∧ ¬ W₁ I ∧ ¬ W₁ J ∧ Aft X hs N₀ env vars W s₀ ρ W₁ s
theorem enum_len : ∀ (k : Nat) (xs : List Int), (enumItems k xs).length = xs.length
  | _, [] => rfl
  | k, x :: l => congrArg (· + 1) (enum_len (k + 1) l)
theorem enum_get : ∀ (k : Nat) (xs : List Int) (i : Nat) (x : Int), xs[i]? = some x → (enumItems k xs)[i]? = some (.tup [.int ((k + i : Nat) : Int), .int x])
  | k, y :: l, 0, x, h => by (injection h with h; subst h); rfl
  | k, y :: l, i + 1, x, h => by
    show (enumItems (k + 1) l)[i]? = _
    rw [enum_get (k + 1) l i x h, show k + 1 + i = k + (i + 1) by lia]
include OK ao hcf
theorem s_forE {vs : List Nat} {e : LE} {b : LSs} (gb : GoodSts X A cf b) : GoodSt X A cf (.forE vs e b) := by
  intro k env ρ hs N₀ W t fl ρ' ht he EF s Q E' R h
  refine inv_trLS_forE ht fun tgx n0 q0 x0 p0 bodyx posx hx₀ htg hit hbody => ?_
  subst hx₀
  refine and_el hit fun hit htr => ?_
  refine and_el hit fun hit hst => ?_
  refine and_el hit fun hit hp => ?_
  refine and_el hit fun hn hg => ?_
  cases beq_iff_eq.mp hn
  refine bind_el he fun v hv he => ?_
  refine bind_el he fun xs hxs he => ?_
  cases LV.ints?_of hxs
  obtain ⟨b1, b2⟩ := OK.blt "enumerate" (.type "enumerate") (.tail _ (.tail _ (.tail _ (.tail _ (.head _)))))
  refine wpAny_For (wpAny_Call_NameR (load_builtin EF.el (OK.g.keeps R.rd.base) (OK.b.keeps R.rd.base) (EF.ko.g _ (isGlob_of hg)) b1 b2 (by decide) ?_)) (fun _ => rfl)
  rw [plainL_star hp env []]
  refine PySem.callWith_type rfl (Calls.evalArgs_plain (Calls.spliced_cons ((sound_L OK ao hcf e).1 k env ρ hs N₀ W _ _ htr hv EF.el EF.ko R.len s _ _ R.rd fun y s₁ r k₁ => Calls.spliced_nil ?_)))
  obtain ⟨l, its, rfl, hnl, hl, hi, hz⟩ := r.unfl hst
  refine call_enumerate_list hl fun h₂ hE hI hsz up => wpAny_pyIter_enum hE ?_
  have R₁ := R.grow k₁.grow
  have hlt : l < s₁.heap.objs.size := by obtain ⟨o, e, _⟩ := hl; exact Heap.lt_size e
  have Wk := WalksT.enumerate (prog := X.x.prog) (w := X.x.w) (A := A) ao.hh (s₁.heap.objs.size + 1) s₁.heap.objs.size l (Nat.ne_of_gt (Nat.lt_succ_self _)) (Nat.ne_of_lt (Nat.lt_succ_of_lt hlt)) (Nat.ne_of_lt hlt) its
  have nE : s₁.heap.get? (s₁.heap.objs.size + 1) = none := by
    cases q : s₁.heap.get? (s₁.heap.objs.size + 1) with
    | none => rfl
    | some o => exact absurd (Heap.lt_size q) (Nat.not_lt.mpr (Nat.le_succ _))
  have nI : s₁.heap.get? s₁.heap.objs.size = none := fresh_size
  generalize hEq : s₁.heap.objs.size + 1 = ea at *
  generalize hIq : s₁.heap.objs.size = ia at *
  have hsn : ∀ {a : Addr}, s₁.heap.get? a = none → hs a = none := fun {a} n => by
    cases q : hs a with
    | none => rfl
    | some o => have := R₁.hb _ _ q; rw [n] at this; injection this
  have nW : ∀ {a : Addr}, s₁.heap.get? a = none → ¬ W a := fun {a} n w => by obtain ⟨_, o, _, e, _⟩ := R₁.rd.lists a (.inr w); rw [n] at e; injection e
  have a0 : Aft X hs N₀ env k.vars W s₁ ρ W { s₁ with heap := h₂ } := Aft.of_kg R₁ ⟨h₂, s₁.toks, rfl, up⟩
  have hlen : (enumItems 0 xs).length = its.size := by rw [enum_len, ints_len hi]
  have wl : ¬ W l := fun w => hnl (.inr w)
  obtain ⟨ol, eol, sol, _⟩ := list_store hl
  generalize eF : forL (bindTg (.many vs)) (fun ρ => exLs X.x.c X.im X.fuel cf b ρ) = F at he
  refine codeAny_forLoop_any (ForII X hs N₀ env k.vars W s₁ (fun i h => (∃ old, IsEnum h ea ia i old) ∧ h.IsListIter ia l i ∧ h.IsList l its) ea ia (enumItems 0 xs) F (fl, ρ')) ?_ (enumItems 0 xs).length ⟨0, ρ, W, Nat.zero_le _, rfl, he, ⟨⟨_, hE⟩, hI, IsList.grow hl up⟩, nW nE, nW nI, a0⟩
  have fin : ∀ {f W' s'}, Aft X hs N₀ env k.vars W s₁ ρ' W' s' → FlL N₀ W' s'.heap fl f → Q f s' := fun {f W' s'} a r => h f W' s' ((Aft.of_kg R k₁).trans a) r
  rintro n s₃ ⟨i, ρ₁, W₁, hle, rfl, hf, st₃, nE₁, nI₁, a₃⟩
  -- what the iterators' own steps leave
  have off : ∀ (h' : Heap) (tk : Nat), (∀ b o, b ∉ [ea, ia] → s₃.heap.get? b = some o → h'.get? b = some o) → Aft X hs N₀ env k.vars W s₁ ρ₁ W₁ { s₃ with heap := h', toks := tk } := fun h' tk keep => by
    have keep' : ∀ b o, b ≠ ea → b ≠ ia → s₃.heap.get? b = some o → h'.get? b = some o := fun b o q q2 e => keep b o (by simp only [List.mem_cons, List.not_mem_nil, or_false, not_or]; exact ⟨q, q2⟩) e
    obtain ⟨⟨old, eE⟩, ⟨oI, eI, cI, dI⟩, _⟩ := st₃
    have no : ∀ {x : Addr} {o : Obj}, s₁.heap.get? x = some o → x ≠ ea ∧ x ≠ ia := fun e => ⟨fun q => (by rw [q, nE] at e; injection e), fun q => (by rw [q, nI] at e; injection e)⟩
    refine ⟨a₃.fr.offII keep' ⟨_, _, eE, rfl, fun q => by injection q with z; exact absurd z (by decide)⟩ (hsn nE) ⟨_, _, eI, dI, fun q => by rw [cI] at q; injection q with z; exact absurd z (by decide)⟩ (hsn nI), a₃.new, fun x o e n sto => keep' x o (no e).1 (no e).2 (a₃.evo x o e n sto), fun x o e => ?_, ?_⟩
    · obtain ⟨o', e'⟩ := a₃.live x o e
      exact ⟨o', keep' x o' (no e).1 (no e).2 e'⟩
    · obtain ⟨h2, t2, rfl⟩ := a₃.ks
      exact ⟨h', tk, rfl⟩
  by_cases hlt' : i < (enumItems 0 xs).length
  · have hi' : i < its.size := by rw [← hlen]; exact hlt'
    refine Wk.item i s₃ _ _ hi' st₃ fun T vals h₄ tk ⟨t0, x, hx, hvals⟩ hT hTup hMid keep₄ => ?_
    subst hvals
    obtain ⟨z, hz'⟩ : ∃ z, xs[i]? = some z := ⟨_, List.getElem?_eq_getElem (by rw [← ints_len hi]; exact hi')⟩
    obtain ⟨u, hu⟩ := ints_at hi i z hz'
    have hxz : x = .int z u := by
      rw [Array.getElem?_toList, hx] at hu
      exact Option.some.inj hu
    subst hxz
    have hget := enum_get 0 xs i z hz'
    rw [Nat.zero_add] at hget
    have hdrop : (enumItems 0 xs).drop i = .tup [.int (i : Int), .int z] :: (enumItems 0 xs).drop (i + 1) := by
      rw [List.drop_eq_getElem_cons hlt']
      rw [List.getElem?_eq_getElem hlt'] at hget
      rw [Option.some.inj hget]
    rw [hdrop, ← eF] at hf
    refine bind_el hf fun ρ₂ hbd hf => ?_
    obtain ⟨⟨f₁, ρ₃⟩, hex, hf⟩ := bind_of hf
    rw [eF] at hf
    have turn : ∀ E₁ E₂ (h₅ : Heap), ((∃ old, IsEnum h₅ ea ia ((i + 1 : Nat) : Int) old) ∧ h₅.IsListIter ia l (i + 1) ∧ h₅.IsList l its) → (∀ b o, b ∉ [ea, ia] → h₄.get? b = some o → h₅.get? b = some o) → wpAny (model X.x.prog X.x.w) A (assign tgx env (.ref T)) (fun _ s₅ => wpAny (model X.x.prog X.x.w) A (execs bodyx env) (LoopQ (ForII X hs N₀ env k.vars W s₁ (fun i h => (∃ old, IsEnum h ea ia i old) ∧ h.IsListIter ia l i ∧ h.IsList l its) ea ia (enumItems 0 xs) F (fl, ρ')) ((enumItems 0 xs).length - i) Q) E₁ s₅) E₂ { s₃ with heap := h₅, toks := tk } := fun E₁ E₂ h₅ st₅ keep₅ => by
      have a₄ := off h₅ tk fun b o q e => keep₅ b o q (keep₄ b o q e)
      have hTup' : IsTup h₅ T #[.int (i : Int) t0, .int z u] := by
        obtain ⟨o, eo, r⟩ := hTup
        exact ⟨o, keep₅ T o (Wk.apart i T h₄ hMid) eo, r⟩
      refine bind_ok ao.hh EF htg hbd a₄.fr (x := .tup [.int (i : Int), .int z]) ⟨T, _, rfl, hTup', .cons ⟨t0, rfl⟩ (.cons ⟨u, rfl⟩ .nil)⟩ fun s₆ a₆ => ?_
      -- the iterators stay while the frame works
      have stay : ∀ {s s' : Shared} {W₁ : Addr → Prop} {j : Nat}, ((∃ old, IsEnum s.heap ea ia (j : Int) old) ∧ s.heap.IsListIter ia l j ∧ s.heap.IsList l its) → ¬ W₁ ea → ¬ W₁ ia → ¬ W₁ l → Evo W₁ s.heap s'.heap → ((∃ old, IsEnum s'.heap ea ia (j : Int) old) ∧ s'.heap.IsListIter ia l j ∧ s'.heap.IsList l its) := fun st n1 n2 n3 ev => by
        obtain ⟨⟨old, eE⟩, ⟨oI, eI, cI, dI⟩, ll⟩ := st
        refine ⟨⟨old, ev _ _ eE n1 rfl⟩, ⟨oI, ev _ _ eI n2 (by unfold isStore; rw [dI]), cI, dI⟩, list_evo ll n3 ev⟩
      have nl₁ : ¬ W₁ l := fun w => by
        rcases a₃.new l w with q | q
        · exact wl q
        · rw [eol] at q; injection q
      have st₆ := stay st₅ nE₁ nI₁ nl₁ a₆.evo
      refine gb k env ρ₂ hs N₀ W₁ _ f₁ ρ₃ hbody hex EF s₆ _ _ a₆.fr fun f W₂ s₇ a₇ r₇ => ?_
      have a₈ := a₄.trans (a₆.trans a₇)
      cases f₁ with
      | next =>
        obtain rfl := r₇
        have st₇ := stay st₆ nE₁ nI₁ nl₁ a₇.evo
        refine ⟨(enumItems 0 xs).length - (i + 1), by omega, i + 1, ρ₃, W₂, hlt', rfl, hf, st₇, fun w => ?_, fun w => ?_, a₈⟩
        · rcases a₇.new ea w with q | q
          · exact nE₁ q
          · obtain ⟨⟨_, e⟩, _⟩ := st₆; have e : s₆.heap.get? ea = some _ := e; rw [q] at e; injection e
        · rcases a₇.new ia w with q | q
          · exact nI₁ q
          · obtain ⟨_, ⟨_, e, _⟩, _⟩ := st₆; rw [q] at e; injection e
      | brk => (injection hf with hf; injection hf with hf hz; subst hf; subst hz); obtain rfl := r₇; exact fin a₈ rfl
      | ret x => (injection hf with hf; injection hf with hf hz; subst hf; subst hz); obtain ⟨y, rfl, ry⟩ := r₇; exact fin a₈ ⟨y, rfl, ry⟩
    revert turn
    apply o_Tuple_elim htg; intro elts kk pos _ turn
    exact Wk.go elts kk pos i T _ _ _ hMid fun h₅ st₅ keep₅ => turn _ _ h₅ st₅ keep₅
  · obtain rfl : i = (enumItems 0 xs).length := Nat.le_antisymm hle (Nat.not_lt.mp hlt')
    rw [List.drop_length, ← eF] at hf
    (injection hf with hf; injection hf with hf hz; subst hf; subst hz)
    refine Wk.done s₃ _ _ (by rw [← hlen]; exact st₃) fun h' tk keep => wpAny_execs_nil (fin (off h' tk keep) rfl)
end
end Mine

end
section
open PySem PySem.W PyProof.Rows
set_option maxRecDepth 100000
set_option maxHeartbeats 1000000
set_option linter.unusedSimpArgs false
set_option linter.unusedVariables false
set_option linter.unusedSectionVars false
namespace Mine
section
variable {X : LX} {A : Around} {cf : Nat → List LV → Option LV} (OK : LOk X) {d : Nat} (ao : AOk A (d + deep + 2)) (hcf : CallLOk X A cf)
include OK ao hcf
end
end Mine

end
section
open PySem PySem.W PyProof.Rows
set_option maxRecDepth 100000
set_option maxHeartbeats 1000000
set_option linter.unusedSimpArgs false
set_option linter.unusedVariables false
set_option linter.unusedSectionVars false
namespace Mine
section
variable {X : LX} {hs : Addr → Option Obj} {N₀ : Addr → Prop} {env : Env} {k : LC} {ρ ρ' : LLoc} {W : Addr → Prop} {s : Shared} {A : Around} {E' : Value → Shared → Prop}
end
section
variable {X : LX} {A : Around} {cf : Nat → List LV → Option LV} (OK : LOk X) {d : Nat} (ao : AOk A (d + deep + 2)) (hcf : CallLOk X A cf)
include OK ao hcf
theorem s_app (v : Nat) (e : LE) : GoodSt X A cf (.app v e) := by
  intro k env ρ hs N₀ W t fl ρ' ht he EF s Q E' R h
  refine inv_trLS_app ht fun n y1 a0 ap x p y2 hx₀ ht => ?_
  subst hx₀
  refine and_el ht fun ht hx => ?_
  refine and_el ht fun ht hp => ?_
  refine and_el ht fun ht hln => ?_
  refine and_el ht fun hv ha => ?_
  cases beq_iff_eq.mp ha
  refine bind_el he fun u hu he => ?_
  refine bind_el he fun xs hxs he => ?_
  refine bind_el he fun w hw he => ?_
  obtain ⟨i, hi', he⟩ := bind_of he
  obtain ⟨hz, he⟩ := cond_of he
  obtain ⟨ρ₁, hset, e'⟩ := map_of he
  cases e'
  cases LV.own?_of hxs
  cases LV.int?_of hi'
  have hz := Nat.le_of_ble_eq_true hz
  have hin : interactive env = false := by show (env.scope.kind == .module && _) = false; rw [EF.el.kind]; rfl
  refine wpAny_Expr_any (wpAny_Call_append rfl (by rw [plainL_star hp]; rfl) hln (by rw [plainL_star hp]; rfl) (load_own R.rd EF.el (isVarL_of hv) hu fun a its va wa l ia z => ⟨a, its, rfl, l, ?_⟩)) hin
  refine (sound_L OK ao hcf e).1 k env ρ hs N₀ W _ _ hx hw EF.el EF.ko R.len s _ _ R.rd fun y s₁ r k₁ => ?_
  obtain ⟨t, rfl⟩ := r
  refine list_append_plainL (l.keeps k₁.grow) (fun h' l' sb => ?_) (by rw [ints_len ia]; exact Nat.le_trans z lim_size)
  refine h _ W _ ((Aft.of_kg R k₁).trans (own_upd (t' := s₁.toks) (R.grow k₁.grow) EF (isVarL_of hv) hu (va.grow k₁.grow) l' (xs' := xs ++ [i]) ?_ ?_ sb hset)) rfl
  · rw [Array.toList_push]; exact ia.append (.cons _ _ .nil)
  · rw [List.length_append]; exact hz
theorem s_slp (v : Nat) (lo hi e : LE) : GoodSt X A cf (.slp v lo hi e) := by
  intro k env ρ hs N₀ W t fl ρ' ht he EF s Q E' R h
  refine inv_trLS_slp ht fun n q a b st p1 p2 x p3 hx₀ ht => ?_
  subst hx₀
  refine and_el ht fun ht hx => ?_
  refine and_el ht fun ht hb => ?_
  refine and_el ht fun ht ha => ?_
  refine and_el ht fun ht hst => ?_
  refine and_el ht fun ht hc => ?_
  refine and_el ht fun hv hno => ?_
  cases Option.isNone_iff_eq_none.mp hno
  refine bind_el he fun w hev he => ?_
  refine bind_el he fun ys hys he => ?_
  refine bind_el he fun l hlo he => ?_
  refine bind_el he fun u hhi he => ?_
  refine bind_el he fun pl hpl he => ?_
  refine bind_el he fun ph hph he => ?_
  refine bind_el he fun w2 hw2 he => ?_
  refine bind_el he fun xs hxs he => ?_
  obtain ⟨hz, he⟩ := cond_of he
  obtain ⟨ρ₁, hset, e'⟩ := map_of he
  cases e'
  cases LV.ints?_of hys
  cases LV.own?_of hxs
  have hz := Nat.le_of_ble_eq_true hz
  refine wpAny_Assign_Subscript ((sound_L OK ao hcf e).1 k env ρ hs N₀ W _ _ hx hev EF.el EF.ko R.len s _ _ R.rd fun y s₁ r k₁ => load_own (R.grow k₁.grow).rd EF.el (isVarL_of hv) hw2 fun al its va wa ll il zl =>
    wpAny_Slice (opt_good (sound_L OK ao hcf lo).1 k env ρ hs N₀ W _ l ha hlo EF.el EF.ko R.len s₁ _ _ (R.grow k₁.grow).rd fun yl s₂ rl k₂ => opt_good (sound_L OK ao hcf hi).1 k env ρ hs N₀ W _ u hb hhi EF.el EF.ko R.len s₂ _ _ (R.grow (k₁.trans k₂).grow).rd fun yu s₃ ru k₃ => ?_)) (notComp_swaps hc _ _ _)
  rw [evalPart_none]
  refine wpAny_pure ?_
  have kk := ((k₁.trans k₂).trans k₃).trans (Kg.push' (s := s₃) (o := { cls := .type "slice", data := .fields #[yl, yu, .none] }))
  have k23 := (k₂.trans k₃).trans (Kg.push' (s := s₃) (o := { cls := .type "slice", data := .fields #[yl, yu, .none] }))
  obtain ⟨al2, jts, rfl, nb, lb, ib, zb⟩ := r.unfl hst
  have hne : al ≠ al2 := fun q => nb (q ▸ .inr wa)
  have hlen : its.size + jts.size ≤ lim := by rw [ints_len il, ints_len ib]; exact hz
  refine setSlice_plain (ll.keeps k23.grow) (IsList.grow lb k23.grow) hne (Heap.IsSliceOf.new ..) (part_of (rl.grow (k₃.trans (Kg.push' (s := s₃) (o := { cls := .type "slice", data := .fields #[yl, yu, .none] }))).grow) hpl) (part_of (ru.grow (Kg.push' (s := s₃) (o := { cls := .type "slice", data := .fields #[yl, yu, .none] })).grow) hph) (Nat.le_trans hlen lim_size) fun h' l' sb => ?_
  refine h _ W _ ((Aft.of_kg R kk).trans (own_upd (t' := s₃.toks) (R.grow kk.grow) EF (isVarL_of hv) hw2 (va.grow k23.grow) l' (xs' := putSl xs pl ph ys) ?_ ?_ sb hset)) rfl
  · rw [slPut_list]
    unfold putSl
    rw [ints_len il]
    exact ((ints_take il _).append ib).append (ints_drop il _)
  · unfold putSl
    rw [List.length_append, List.length_append, List.length_take, List.length_drop]
    omega
theorem s_newR (v : Nat) : GoodSt X A cf (.newR v) := by
  intro k env ρ hs N₀ W t fl ρ' ht he EF s Q E' R h
  refine inv_trLS_newR ht fun n q y1 y2 hx₀ hv => ?_
  subst hx₀
  obtain ⟨hf, he⟩ := cond_of he
  obtain ⟨ρ₁, hset, e'⟩ := map_of he
  cases e'
  refine wpAny_Assign_Name (sound_F OK ao hcf (.disp .nil) rfl k env ρ hs N₀ W _ (.ints []) (by rfl) (by rfl) EF.el EF.ko R.len s _ _ R.rd fun y s₁ r k₁ nw => ?_) (notComp_swaps rfl _ _ _)
  obtain ⟨a, its, rfl, _, l, ia, z⟩ := r
  have l := plain_of l (nw a rfl).2
  have na := (nw a rfl).1
  have A1 := R.addW k₁ na l
  have pe : Paired (RT (nn N₀ fun b => W b ∨ b = a) s₁.heap) [] its.toList := by
    generalize its.toList = L at ia
    cases ia; exact .nil
  refine stored_aft EF A1.fr (isVarL_of hv) hf hset (v := .ownR []) ⟨a, its, rfl, .inr rfl, l, pe, Nat.zero_le _⟩ (fun b _ e2 j nj w _ hj hv ow va => ?_) (fun _ _ q => by cases q) fun s'' A2 => h _ _ s'' (A1.trans A2) rfl
  cases e2
  have va' := VarAt.down R k₁.grow hj hv va
  obtain ⟨y', vb, r⟩ := R.rd.var j nj _ hj hv
  obtain ⟨b', its', e, w, o, _, eo, _⟩ := r.ow ow
  have := va'.unique vb
  rw [e] at this; cases this
  rw [na] at eo; cases eo
theorem s_appR (v : Nat) (es : LEs) : GoodSt X A cf (.appR v es) := by
  intro k env ρ hs N₀ W t fl ρ' ht he EF s Q E' R h
  refine inv_trLS_appR ht fun n y1 a0 ap x p y2 hx₀ ht => ?_
  subst hx₀
  refine and_el ht fun ht hx => ?_
  refine and_el ht fun ht hst => ?_
  refine and_el ht fun ht hp => ?_
  refine and_el ht fun ht hln => ?_
  refine and_el ht fun hv ha => ?_
  cases beq_iff_eq.mp ha
  refine bind_el he fun u hu he => ?_
  refine bind_el he fun xs hxs he => ?_
  refine bind_el he fun w hw he => ?_
  obtain ⟨i, hi', he⟩ := bind_of he
  obtain ⟨hz, he⟩ := cond_of he
  obtain ⟨ρ₁, hset, e'⟩ := map_of he
  cases e'
  cases LV.ownR?_of hxs
  cases LV.tup?_of hi'
  have hz := Nat.le_of_ble_eq_true hz
  have hin : interactive env = false := by show (env.scope.kind == .module && _) = false; rw [EF.el.kind]; rfl
  obtain ⟨y, va, a, its, rfl, wa, l, pr, z⟩ := R.rd.var v n _ (isVarL_of hv) hu
  refine wpAny_Expr_any (wpAny_Call_append rfl (by rw [plainL_star hp]; rfl) hln (by rw [plainL_star hp]; rfl) (load_at EF.el (isVarL_of hv) va ⟨a, its, rfl, l, ?_⟩)) hin
  refine (sound_L OK ao hcf (.tup es)).1 k env ρ hs N₀ W _ _ hx hw EF.el EF.ko R.len s _ _ R.rd fun y s₁ r k₁ => ?_
  have r := r.unfl hst
  refine list_append_plainL (l.keeps k₁.grow) (fun h' l' sb => ?_) (by
    have : its.size = xs.length := by rw [← Array.length_toList, ← pr.length]
    rw [this]; exact Nat.le_trans z lim_size)
  refine h _ W _ ((Aft.of_kg R k₁).trans (own_updR (t' := s₁.toks) (R.grow k₁.grow) EF (isVarL_of hv) hu (va.grow k₁.grow) l' (xs' := xs ++ [i]) (fun keep sq => ?_) ?_ sb hset)) rfl
  · rw [Array.toList_push]
    exact ((pr.mono fun _ _ q => RT.grow q k₁.grow).mono fun _ _ q => RT.keepS q sq).snoc (RT.keepS r sq)
  · rw [List.length_append]; exact hz
omit OK ao hcf in
theorem s_frz (v : Nat) {st : LS} (g : GoodSt X A cf st) : GoodSt X A cf (.frz v st) := by
  intro k env ρ hs N₀ W t fl ρ' ht he EF s Q E' R h
  have ht : trLS X.x.c X.F k st t = true := ht
  refine bind_el he fun u hu he => ?_
  refine bind_el he fun xs hxs he => ?_
  refine bind_el he fun ρ₁ hset hk => ?_
  cases LV.ownR?_of hxs
  obtain ⟨hlt, rfl⟩ := setL_of hset
  obtain ⟨n, hn⟩ : ∃ n, k.vars[v]? = some n := ⟨_, List.getElem?_eq_getElem (by rw [← R.len]; exact hlt)⟩
  obtain ⟨W', A1⟩ := R.frz hn hu
  exact g k env _ hs N₀ W' t fl ρ' ht hk EF s _ _ A1.fr fun f W'' s' a r => h f W'' s' (A1.trans a) r
end
end Mine

end
section
open PySem PySem.W PyProof.Rows
set_option maxRecDepth 100000
set_option maxHeartbeats 1000000
set_option linter.unusedSimpArgs false
set_option linter.unusedVariables false
set_option linter.unusedSectionVars false
namespace Mine
section
variable {X : LX} {A : Around} {cf : Nat → List LV → Option LV} (OK : LOk X) {d : Nat} (ao : AOk A (d + deep + 2)) (hcf : CallLOk X A cf)
include OK ao hcf
end
end Mine

end
section
open PySem PySem.W PyProof.Rows
set_option maxRecDepth 100000
set_option maxHeartbeats 1000000
set_option linter.unusedSimpArgs false
set_option linter.unusedVariables false
set_option linter.unusedSectionVars false
namespace Mine
section
variable {X : LX} {A : Around} {cf : Nat → List LV → Option LV} (OK : LOk X) {d : Nat} (ao : AOk A (d + deep + 2)) (hcf : CallLOk X A cf)
include OK ao hcf
mutual
theorem sound_St : ∀ st : LS, GoodSt X A cf st
  | .asg v e => s_asg OK ao hcf v e
  | .newl v e => s_newl OK ao hcf v e
  | .asgU vs e => s_asgU OK ao hcf vs e
  | .slp v lo hi e => s_slp OK ao hcf v lo hi e
  | .newR v => s_newR OK ao hcf v
  | .appR v es => s_appR OK ao hcf v es
  | .frz v s => s_frz v (sound_St s)
  | .app v e => s_app OK ao hcf v e
  | .step v m => s_step OK ao v m
  | .mk v mv e => s_mk OK ao hcf v mv e
  | .ite t a b => s_ite OK ao hcf (sound_Sts a) (sound_Sts b)
  | .for tg src b => s_for OK ao hcf (sound_Sts b)
  | .forE vs e b => s_forE OK ao hcf (sound_Sts b)
  | .brk => s_brk
  | .ret e => s_ret OK ao hcf e
  | .reto v => s_reto v
theorem sound_Sts : ∀ st : LSs, GoodSts X A cf st
  | .nil => ss_nil
  | .cons s r => ss_cons (sound_St s) (sound_Sts r)
end
end
end Mine

end
section
open PySem PySem.W PyProof.Rows
set_option maxRecDepth 100000
set_option maxHeartbeats 1000000
set_option linter.unusedSimpArgs false
set_option linter.unusedVariables false
set_option linter.unusedSectionVars false
namespace Mine
structure FDok (X : LX) (fdt : FuncData) (fd : FnD) : Prop where
  body : ∃ b, fdt.body = .stmts b ∧ trLSs X.x.c X.F ⟨fdt.scope.names, fd.vars⟩ fd.body b = true
  kind : fdt.scope.kind = .function
  gen : fdt.scope.isGenerator = false
  co : fdt.scope.isCoroutine = false
  clo : fdt.closure = []
  glob : fdt.globals = mainGlobals
  blt : fdt.builtins = builtinsNs
  bind : ∀ vals : List Value, vals.length = fd.np → bindArgs fdt ⟨vals, []⟩ = pure ((fd.vars.take fd.np).zip vals)
  nodup : fd.vars.Nodup
  nodbg : ∀ v ∈ fd.vars, (v == ("__debug__" : Str)) = false
  npLe : fd.np ≤ fd.vars.length
  kinds : ∀ n ∈ fd.vars, fdt.scope.names.lookup n = some .local ∨ fdt.scope.names.lookup n = some .cell
theorem bindL_miss {kindOf : Str → Option NameKind} {n : Str} : ∀ (l : List (Str × Value)) (m : Str → Option Value), n ∉ l.map (·.1) → bindL kindOf l m n = m n
  | [], m, _ => rfl
  | (a, v) :: r, m, h => by
    rw [List.map_cons, List.mem_cons, not_or] at h
    unfold bindL
    rw [bindL_miss r _ h.2]
    split
    · show (if n = a then some v else m n) = m n; rw [if_neg h.1]
    · rfl
theorem bindC_miss {kindOf : Str → Option NameKind} {n : Str} : ∀ (l : List (Str × Value)) (m : Str → Option Value), n ∉ l.map (·.1) → bindC kindOf l m n = m n
  | [], m, _ => rfl
  | (a, v) :: r, m, h => by
    rw [List.map_cons, List.mem_cons, not_or] at h
    unfold bindC
    rw [bindC_miss r _ h.2]
    split
    · rfl
    · show (if n = a then some v else m n) = m n; rw [if_neg h.1]
theorem bind_hit {kindOf : Str → Option NameKind} {n : Str} {v : Value} : ∀ (l : List (Str × Value)) (m cm : Str → Option Value), (l.map (·.1)).Nodup → (n, v) ∈ l → (kindOf n = some .local → bindL kindOf l m n = some v) ∧ (kindOf n ≠ some .local → bindC kindOf l cm n = some v)
  | (a, u) :: r, m, cm, nd, h => by
    rw [List.map_cons, List.nodup_cons] at nd
    rcases List.mem_cons.mp h with e | h
    · cases e
      constructor
      · intro k
        unfold bindL
        rw [if_pos k, bindL_miss r _ nd.1]
        exact if_pos rfl
      · intro k
        unfold bindC
        rw [if_neg k, bindC_miss r _ nd.1]
        exact if_pos rfl
    · unfold bindL bindC
      exact bind_hit r _ _ nd.2 h
section
variable {X : LX} (OK : LOk X)
include OK in
theorem run_fn {A : Around} {cf : Nat → List LV → Option LV} {d : Nat} (ao : AOk A (d + deep + 3)) (hcf : ∀ A' : Around, AOk A' (d + deep + 2) → CallLOk X A' cf) {fdt : FuncData} {fd : FnD} (S : FDok X fdt fd) {s : Shared} {a : Addr} {o : Obj} (ho : s.heap.get? a = some o) (hd : o.data = .func fdt) (hlim : s.heap.NoLimit) (hcd : s.heap.CodeRec fdt.code fdt.qualname)
    {args : List LV} {vals : List Value} {N : Addr → Prop} {fl : LFl} {ρ' : LLoc} (hlen : args.length = fd.np) (hstab : args.all stable = true) (he : exLs X.x.c X.im X.fuel cf fd.body (args.map some ++ List.replicate (fd.vars.length - fd.np) none) = some (fl, ρ')) (hfl : fl ≠ .brk)
    (hb : ∀ b o, X.x.h₀.get? b = some o → s.heap.get? b = some o) (ln : Lists N s.heap) (p : Paired (RV N s.heap) args vals) {R : Result → Shared → Prop}
    (post : ∀ y s', (match fl with | .ret v => RV N s'.heap v y | _ => y = .none) → Kg s s' → R (.ok (.ret y)) s') : codeAny (model X.x.prog X.x.w) A (.call (.ref a) ⟨vals, []⟩) R s := by
  obtain ⟨b, hbody, htr⟩ := S.body
  have vlen : vals.length = fd.np := by rw [← p.length]; exact hlen
  have zmap : ((fd.vars.take fd.np).zip vals).map (·.1) = fd.vars.take fd.np := List.map_fst_zip (by rw [vlen, List.length_take]; exact Nat.min_le_left _ _)
  have znd : (((fd.vars.take fd.np).zip vals).map (·.1)).Nodup := by rw [zmap]; exact (List.take_sublist _ _).nodup S.nodup
  have kc : ∀ n ∈ fd.vars, ∀ L, fdt.scope.names.lookup n = some .local ∨ (fdt.scope.names.lookup n = some .cell ∧ ((cellsFrom L fdt.scope.names []).lookup n).isSome = true) := fun n hn L => by
    rcases S.kinds n hn with q | q
    · exact .inl q
    · exact .inr ⟨q, cellsFrom_some _ _ _ (.inl q)⟩
  refine codeAny_call_cells (by have := ao.dp; lia) ho hd hlim hcd hbody (S.bind vals vlen) S.clo (fun x hx => kc _ (List.mem_of_mem_take (List.of_mem_zip hx).1) _) (fun s₁ I => ?_) S.co S.gen S.kind
  have EF : EnvF (callEnvC fdt s.heap.objs.size a) ⟨fdt.scope.names, fd.vars⟩ := by
    refine ⟨⟨S.kind, S.glob, S.blt, S.nodbg⟩, ⟨fun n h => h, fun n h => ⟨h, Option.isSome_iff_exists.mp (cellsFrom_some _ _ _ (.inl h))⟩⟩, S.nodup, I.apart, fun n hn => ?_, rfl⟩
    rcases kc n hn (s.heap.objs.size + 1) with q | ⟨q, q'⟩
    · exact .inl q
    · exact .inr ⟨q, Option.isSome_iff_exists.mp q'⟩
  have ao' : AOk (A.deeper (callEnvC fdt s.heap.objs.size a)) (d + deep + 2) := AOk.deeper (d := d + deep + 2) ao
  have gr := I.toInCall.keep
  have fresh : ∀ b, s.heap.objs.size ≤ b → s.heap.get? b = none := fun b hb => by
    cases q : s.heap.get? b with
    | none => rfl
    | some o => exact absurd (Heap.lt_size q) (Nat.not_lt.mpr hb)
  have FR : FrR X (fun b => s.heap.get? b) N (callEnvC fdt s.heap.objs.size a) fd.vars (args.map some ++ List.replicate (fd.vars.length - fd.np) none) (fun _ => False) s₁.heap := by
    have atA : ∀ i v, LLoc.at (args.map some ++ List.replicate (fd.vars.length - fd.np) none) i = some v → args[i]? = some v := fun i v q => by
      unfold LLoc.at at q
      by_cases z : i < args.length
      · rw [List.getElem?_append_left (by rw [List.length_map]; exact z), List.getElem?_map] at q
        cases w : args[i]? with
        | none => rw [w] at q; injection q
        | some u => rw [w] at q; simpa using q
      · rw [List.getElem?_append_right (by rw [List.length_map]; lia), List.getElem?_replicate] at q
        split at q <;> injection q
    have stA : ∀ i v, LLoc.at (args.map some ++ List.replicate (fd.vars.length - fd.np) none) i = some v → stable v = true := fun i v q => List.all_eq_true.mp hstab v (List.mem_of_getElem? (atA i v q))
    refine ⟨⟨fun b o e => gr b o (hb b o e), fun b w => ?_, fun i n v hi hv => ?_, fun i n σ mv hi hv => ?_⟩, fun b o e => hb b o e, fun b o e => gr b o e, fun _ w => w.elim, fresh _ (Nat.le_refl _), ⟨_, I.toInCall.ns⟩, fun n c hc => ⟨fresh _ (Nat.le_trans I.toInCall.fresh (Nat.le_of_lt (I.above n c (mem_of_lookup hc)))), _, I.cell n c hc⟩, fun i j ni nj u v a h1 h2 h3 _ o1 => ?_, fun i j ni nj σ τ m n I J D _ _ h3 => ?_, ?_, fun b w q => by obtain ⟨its, o, _, e, _⟩ := ln b w; rw [show s.heap.get? b = none from q] at e; injection e⟩
    · rcases w with w | w
      · obtain ⟨its, l⟩ := ln b w; exact ⟨its, l.keeps gr⟩
      · exact w.elim
    · have hargs := atA i v hv
      have hil : i < fd.np := by rw [← hlen]; exact (List.getElem?_eq_some_iff.mp hargs).1
      have pat : ∀ {l₁ : List LV} {l₂ : List Value}, Paired (RV N s.heap) l₁ l₂ → ∀ (i : Nat) (v : LV), l₁[i]? = some v → ∃ y, l₂[i]? = some y ∧ RV N s.heap v y := by
        intro l₁ l₂ p
        induction p with
        | nil => intro i v h; simp at h
        | cons r _ ih =>
          intro i v h
          cases i with
          | zero => simp at h; subst h; exact ⟨_, rfl, r⟩
          | succ i => simpa using ih i v (by simpa using h)
      obtain ⟨y, hy, ry⟩ := pat p i v hargs
      have hmem : (n, y) ∈ (fd.vars.take fd.np).zip vals := by
        refine List.mem_of_getElem? (i := i) ?_
        rw [List.getElem?_zip_eq_some]
        exact ⟨by rw [List.getElem?_take_of_lt hil]; exact hi, hy⟩
      obtain ⟨hL, hC⟩ := bind_hit (kindOf := (callEnvC fdt s.heap.objs.size a).kindOf) _ (fun _ => none) (fun _ => none) znd hmem
      refine ⟨y, ?_, RV.var ((ry.weak fun b _ q => by rcases q with q | q; exact q; exact q.elim).grow gr)⟩
      rcases EF.kinds n (List.mem_of_getElem? hi) with q | ⟨q, c, hc⟩
      · exact .inl ⟨q, _, I.toInCall.ns, hL q⟩
      · have ic := I.cell n c hc
        rw [hC (by rw [q]; decide)] at ic
        exact .inr ⟨q, c, hc, ic⟩
    · have := stA i _ hv; injection this
    · have := stA i _ h3; cases u <;> first | exact absurd o1 Bool.false_ne_true | exact absurd this Bool.false_ne_true
    · have := stA i _ h3; injection this
    · have := S.npLe
      simp only [List.length_append, List.length_map, List.length_replicate]
      lia
  refine sound_Sts OK ao' (hcf _ ao') fd.body ⟨fdt.scope.names, fd.vars⟩ _ _ _ N _ b fl ρ' htr he EF s₁ _ _ FR fun f W' s' af r => ?_
  have kg : Kg s s' := by
    obtain ⟨h1, t1, rfl⟩ := I.toInCall.same
    obtain ⟨h2, t2, rfl⟩ := af.ks
    exact ⟨h2, t2, rfl, af.fr.hb⟩
  cases fl with
  | next => obtain rfl := r; exact post _ s' rfl kg
  | brk => exact absurd rfl hfl
  | ret v =>
    obtain ⟨y, rfl, ry⟩ := r
    exact post _ s' ry kg
structure FnsOk (X : LX) : Prop where
  fn : ∀ (f : Nat) (fd : FnD), X.F[f]? = some fd → X.mg fd.nm = some (.ref (X.fA f)) ∧ (fd.nm == ("__debug__" : Str)) = false ∧ ∃ o fdt, X.x.h₀.get? (X.fA f) = some o ∧ o.data = .func fdt ∧ FDok X fdt fd ∧ X.x.h₀.CodeRec fdt.code fdt.qualname
  lim : X.x.h₀.NoLimit
include OK in
theorem sound_callL (FO : FnsOk X) : ∀ (j : Nat) (A : Around), AOk A (j + deep + 2) → CallLOk X A (callL X.x.c X.im X.fuel X.F j)
  | 0, A, _ => fun f args v h => nomatch h
  | j + 1, A, ao => fun f args v h => by
    refine bind_el h fun fd hF h => ?_
    obtain ⟨hl, h⟩ := ite_of h
    obtain ⟨⟨fl, ρ'⟩, hx, h⟩ := bind_of h
    obtain ⟨h1, h2, o, fdt, h3, h4, h5, h6⟩ := FO.fn f fd hF
    refine ⟨fd, hF, h1, h2, ⟨o, fdt, h3, h4⟩, fun s N vals R hb ln p post => ?_⟩
    have ao' : AOk A (j + deep + 3) := by rwa [show j + 1 + deep + 2 = j + deep + 3 by lia] at ao
    refine run_fn OK ao' (fun A' a' => sound_callL FO j A' a') h5 (hb _ _ h3) h4 (FO.lim.keeps hb) (h6.keeps hb) hl.1 hl.2 hx (fun q => by subst q; injection h) hb ln p fun y s' r k => ?_
    cases fl with
    | next => (injection h with h; subst h); exact post y s' r k
    | brk => injection h
    | ret u =>
      obtain ⟨_, e⟩ := cond_of h
      (injection e with e; subst e)
      exact post y s' r k
end
end Mine

end
section
open PySem PySem.W PyProof.Rows
set_option maxRecDepth 100000
set_option maxHeartbeats 1000000
set_option linter.unusedSimpArgs false
set_option linter.unusedVariables false
namespace Mine
noncomputable def plainArgs (fd : FuncData) (names : List Str) : Bool :=
  fd.params.posonlyargs.isEmpty && fd.params.vararg.isNone && fd.params.kwonlyargs.isEmpty && fd.params.kwarg.isNone && fd.defaults == .none && fd.params.args.map (·.arg) == names
theorem zip_lookup {β : Type} : ∀ {ns : List Str} {vs : List β}, vs.length = ns.length → ∀ n ∈ ns, ((ns.zip vs).lookup n).isSome = true
  | a :: ns, v :: vs, hl, n, hn => by
    rw [List.zip_cons_cons, List.lookup_cons]
    cases e : n == a with
    | true => rfl
    | false =>
      rcases List.mem_cons.mp hn with q | q
      · rw [q] at e; simp at e
      · exact zip_lookup (by simpa using hl) n q
  | _ :: _, [], hl, _, _ => by injection hl
theorem zip_filterMap {β : Type} : ∀ {ns : List Str} {vs : List β}, vs.length = ns.length → ns.Nodup → ns.filterMap (fun n => ((ns.zip vs).lookup n).map (n, ·)) = ns.zip vs := by
  have go : ∀ (pre : List (Str × β)) (ns : List Str) (vs : List β), vs.length = ns.length → (∀ x ∈ pre, x.1 ∉ ns) → ns.Nodup → ns.filterMap (fun n => ((pre ++ ns.zip vs).lookup n).map (n, ·)) = ns.zip vs := by
    intro pre ns
    induction ns generalizing pre with
    | nil => intro vs hl _ _; cases vs <;> rfl
    | cons a ns ih =>
      intro vs hl hp nd
      cases vs with
      | nil => injection hl
      | cons v vs =>
        rw [List.nodup_cons] at nd
        have hpre : pre.lookup a = none := by
          rw [List.lookup_eq_none_iff]
          intro x hx
          have := hp x hx
          rw [List.mem_cons, not_or] at this
          simp [Ne.symm this.1]
        rw [List.filterMap_cons, List.zip_cons_cons, List.lookup_append, hpre, Option.none_or, List.lookup_cons, beq_self_eq_true]
        dsimp only [Option.map_some]
        congr 1
        have := ih (pre ++ [(a, v)]) vs (by simpa using hl) (fun x hx => by
          rcases List.mem_append.mp hx with q | q
          · have := hp x q; rw [List.mem_cons, not_or] at this; exact this.2
          · rw [List.mem_singleton.mp q]; exact nd.1) nd.2
        rw [List.append_assoc, List.singleton_append] at this
        exact this
  intro ns vs hl nd
  exact go [] ns vs hl (fun x hx => nomatch hx) nd
theorem bind_plain {fd : FuncData} {names : List Str} (h : plainArgs fd names = true) (nd : names.Nodup) {vals : List Value} (hl : vals.length = names.length) : bindArgs fd ⟨vals, []⟩ = pure (names.zip vals) := by
  unfold plainArgs at h
  simp only [Bool.and_eq_true, List.isEmpty_iff, Option.isNone_iff_eq_none, beq_iff_eq] at h
  obtain ⟨⟨⟨⟨⟨h1, h2⟩, h3⟩, h4⟩, h5⟩, h6⟩ := h
  have miss : (names.take (names.length - 0)).filter (fun n => ((names.zip vals).lookup n).isNone) = [] := by
    rw [List.filter_eq_nil_iff]
    intro n hn
    have := zip_lookup hl n (List.mem_of_mem_take hn)
    cases q : (names.zip vals).lookup n with
    | none => rw [q] at this; injection this
    | some _ => simp
  have sq : seqItems? Value.none = pure none := rfl
  unfold bindArgs
  simp only [h1, h2, h3, h4, h5, h6, sq, List.map_nil, List.nil_append, List.forIn_nil, pure_bind, Option.getD_none, Array.toList_empty, List.length_nil, List.drop_nil, List.append_nil, List.zip_nil_right, Nat.zero_sub, Nat.sub_zero, hl, Nat.lt_irrefl, gt_iff_lt, decide_false, Bool.false_and, Bool.false_eq_true, if_false, List.isEmpty_nil, Bool.not_true]
  have miss' := miss
  rw [Nat.sub_zero] at miss'
  simp only [miss', List.isEmpty_nil, Bool.not_true, Bool.false_eq_true, if_false, zip_filterMap hl nd]
  try rfl
noncomputable def fdB (K : Frag) (c : Cls) (md : MethD) (fd : FuncData) : Bool :=
  (match fd.body with | .stmts b => trSs c md.vars md.body b | _ => false) && fd.scope.kind == .function && !fd.scope.isGenerator && !fd.scope.isCoroutine && fd.scope.names.all (fun y => y.2 != .cell) && md.vars.all (fun v => fd.scope.names.lookup v == some .local) && codeIn K fd.code fd.qualname
noncomputable def isFnO (o : Option Obj) (f : FuncData → Bool) : Bool := match o with
  | some ⟨.type t, none, .func fd, sl⟩ => t == "function" && sl.size == 0 && f fd
  | _ => false
theorem isFnO_of {o : Option Obj} {f : FuncData → Bool} (h : isFnO o f = true) : ∃ fd, o = some ⟨.type "function", none, .func fd, #[]⟩ ∧ f fd = true := by
  unfold isFnO at h
  split at h
  · rename_i t fd sl
    simp only [Bool.and_eq_true, beq_iff_eq] at h
    obtain ⟨⟨rfl, h2⟩, h3⟩ := h
    exact ⟨fd, by rw [Array.eq_empty_of_size_eq_zero h2], h3⟩
  · injection h
noncomputable def nmB (n : Str) : Bool := !copiedNames.contains n && Fld.all.all fun f => n != f.nm
theorem nmB_of {n : Str} (h : nmB n = true) : copiedNames.contains n = false ∧ ∀ f : Fld, n ≠ f.nm := by
  unfold nmB at h
  simp only [Bool.and_eq_true, Bool.not_eq_true', List.all_eq_true, bne_iff_ne] at h
  exact ⟨h.1, fun f => h.2 f (Fld.mem_all f)⟩
noncomputable def varsB (md : MethD) : Bool := decide md.vars.Nodup && md.vars.all (fun v => !(v == ("__debug__" : Str))) && decide (md.np ≤ md.vars.length) && md.vars[0]? == some ("self" : Str)
noncomputable def methB (plain : Bool) (K : Frag) (C : Addr) (c : Cls) (fnA : Nat → Addr) (m : Nat) (md : MethD) : Bool :=
  findIn K (.ref C) md.nm == some (some (.ref (fnA m))) && nmB md.nm && varsB md && isFnO (K.lookup (fnA m)) (fun fd => fdB K c md fd && (!plain || plainArgs fd (md.vars.take md.np)))
theorem methB_of {x : Cx} {m : Nat} {md : MethD} {plain : Bool} (h : methB plain x.K x.C x.c x.fnA m md = true)
    (hb : ∀ fd, x.K.lookup (x.fnA m) = some ⟨.type "function", none, .func fd, #[]⟩ → plain = true ∨ ∀ (s : Shared) (vals : List Value), x.K.In s.heap → vals.length = md.np → BindsTo s fd ⟨vals, []⟩ ((md.vars.take md.np).zip vals)) : MethOk x m md := by
  unfold methB at h
  simp only [Bool.and_eq_true, beq_iff_eq] at h
  obtain ⟨⟨⟨h1, h2⟩, h3⟩, h4⟩ := h
  obtain ⟨n1, n2⟩ := nmB_of h2
  unfold varsB at h3
  simp only [Bool.and_eq_true, decide_eq_true_eq, List.all_eq_true, Bool.not_eq_true', beq_iff_eq] at h3
  obtain ⟨⟨⟨v1, v2⟩, v3⟩, v4⟩ := h3
  obtain ⟨fd, e, hf⟩ := isFnO_of h4
  refine and_el hf fun f1 f2 => ?_
  unfold fdB at f1
  simp only [Bool.and_eq_true, Bool.not_eq_true', beq_iff_eq, List.all_eq_true, bne_iff_ne] at f1
  obtain ⟨⟨⟨⟨⟨⟨g1, g2⟩, g3⟩, g4⟩, g5⟩, g6⟩, g7⟩ := f1
  have body : ∃ b, fd.body = .stmts b ∧ trSs x.c md.vars md.body b = true := by
    split at g1
    · rename_i b hb; exact ⟨b, hb, g1⟩
    · injection g1
  obtain ⟨b, hb1, hb2⟩ := body
  refine ⟨h1, n2, n1, v1, v2, v3, v4, fd, b, e, hb1, hb2, g2, g3, g4, g5, g6, g7, fun s vals K hl => ?_⟩
  rcases hb fd e with q | q
  · subst q
    simp only [Bool.not_true, Bool.false_or] at f2
    exact BindsTo.of_eq (bind_plain f2 ((List.take_sublist _ _).nodup v1) (by rw [hl, List.length_take]; lia))
  · exact q s vals K hl
noncomputable def cstB (K : Frag) (C : Addr) (q : Str × Int) : Bool := (match findIn K (.ref C) q.1 with | some (some (.int i _)) => i == q.2 | _ => false) && nmB q.1
noncomputable def intsB : List Value → List Int → Bool
  | [], [] => true
  | .int i _ :: vs, n :: ns => i == n && intsB vs ns
  | _, _ => false
theorem intsB_of : ∀ {vs : List Value} {ns : List Int}, intsB vs ns = true → IntsAre vs ns
  | [], [], _ => .nil
  | .int i t :: vs, n :: ns, h => by
    unfold intsB at h
    refine and_el h fun h1 h2 => ?_
    obtain rfl := beq_iff_eq.mp h1
    exact .cons _ _ (intsB_of h2)
  | [], _ :: _, h => by unfold intsB at h; injection h
  | .int _ _ :: _, [], h => by unfold intsB at h; injection h
noncomputable def isLstO (o : Option Obj) (f : List Value → Bool) : Bool := match o with
  | some ⟨.type t, none, .seq vs n, sl⟩ => t == "list" && n == 0 && sl.size == 0 && f vs.toList
  | _ => false
theorem isLstO_of {o : Option Obj} {f : List Value → Bool} (h : isLstO o f = true) : ∃ vs : List Value, o = some { cls := .type "list", data := .seq vs.toArray } ∧ f vs = true := by
  unfold isLstO at h
  split at h
  · rename_i t vs n sl
    simp only [Bool.and_eq_true, beq_iff_eq] at h
    obtain ⟨⟨⟨rfl, rfl⟩, h2⟩, h3⟩ := h
    exact ⟨vs.toList, by rw [Array.eq_empty_of_size_eq_zero h2, Array.toArray_toList], h3⟩
  · injection h
noncomputable def tabB (K : Frag) (C : Addr) (a : Addr) (q : Str × List Int) : Bool := findIn K (.ref C) q.1 == some (some (.ref a)) && nmB q.1 && isLstO (K.lookup a) (fun vs => intsB vs q.2) && decide (q.2.length < 2 ^ 62)
noncomputable def insB (K : Frag) (C : Addr) (c : Cls) (fnA : Nat → Addr) (a : Addr) : Bool := findIn K (.ref C) c.instrN == some (some (.ref a)) && nmB c.instrN && isLstO (K.lookup a) (fun vs => vs == c.instr.map fun m => Value.ref (fnA m)) && decide (c.instr.length < 2 ^ 62)
noncomputable def baseB (K : Frag) (C : Addr) : Bool := findIn K (.ref C) "__getattribute__" == some (some (.builtin "object.__getattribute__")) && findIn K (.ref C) "__getattr__" == some none && findIn K (.ref C) "__setattr__" == some (some (.builtin "object.__setattr__")) && hasDictIn K C && plainOver K C && Fld.all.all fun f => findIn K (.ref C) f.nm == some none
structure KLooks (K : Frag) (C : Addr) (c : Cls) (fnA tabA : Nat → Addr) (insA : Addr) : Prop where
  base : baseB K C = true
  cst : c.csts.all (cstB K C) = true
  tab : ∀ k q, c.tabs[k]? = some q → tabB K C (tabA k) q = true
  ins : insB K C c fnA insA = true
theorem ok_of {x : Cx} (h : KLooks x.K x.C x.c x.fnA x.tabA x.insA) (hm : ∀ m md, x.c.P[m]? = some md → MethOk x m md) (X : x.K.In x.h₀) (lim : x.h₀.NoLimit) (nD : x.h₀.get? x.D = none) (nL : x.h₀.get? x.L = none) (DL : x.D ≠ x.L) : Ok x := by
  have hb := h.base
  unfold baseB at hb
  simp only [Bool.and_eq_true, beq_iff_eq, List.all_eq_true] at hb
  obtain ⟨⟨⟨⟨⟨b1, b2⟩, b3⟩, b4⟩, b5⟩, b6⟩ := hb
  refine ⟨X, lim, nD, nL, DL, b1, b2, b3, b4, b5, fun f => b6 f (Fld.mem_all f), fun k n v e => ?_, fun k n l e => ?_, ?_, hm⟩
  · have := List.all_eq_true.mp h.cst (n, v) (List.mem_of_getElem? e)
    unfold cstB at this
    refine and_el this fun q1 q2 => ?_
    obtain ⟨n1, n2⟩ := nmB_of q2
    split at q1
    · rename_i i t hf
      obtain rfl := beq_iff_eq.mp q1
      exact ⟨⟨t, hf⟩, n1, n2⟩
    · injection q1
  · have := h.tab k (n, l) e
    unfold tabB at this
    simp only [Bool.and_eq_true, beq_iff_eq] at this
    obtain ⟨⟨⟨q1, q2⟩, q3⟩, _⟩ := this
    obtain ⟨n1, n2⟩ := nmB_of q2
    obtain ⟨vs, e1, e2⟩ := isLstO_of q3
    exact ⟨q1, n1, n2, vs, e1, intsB_of e2⟩
  · have := h.ins
    unfold insB at this
    simp only [Bool.and_eq_true, beq_iff_eq] at this
    obtain ⟨⟨⟨q1, q2⟩, q3⟩, _⟩ := this
    obtain ⟨n1, n2⟩ := nmB_of q2
    obtain ⟨vs, e1, e2⟩ := isLstO_of q3
    refine ⟨q1, n1, n2, ?_⟩
    rw [e1, beq_iff_eq.mp e2]
theorem small_of {x : Cx} (h : KLooks x.K x.C x.c x.fnA x.tabA x.insA) : Small x := by
  refine ⟨fun k n l e => ?_, ?_⟩
  · have := h.tab k (n, l) e
    unfold tabB at this
    simp only [Bool.and_eq_true, decide_eq_true_eq] at this
    exact this.2
  · have := h.ins
    unfold insB at this
    simp only [Bool.and_eq_true, decide_eq_true_eq] at this
    exact this.2
noncomputable def strKeysB (es : List DictEntry) : Bool := es.all fun e => match e.key with | .str _ _ => true | _ => false
theorem ns_of_obj {h : Heap} {a : Addr} {c : Value} {d : Option Addr} {es : List DictEntry} {n : Nat} {sl : Array (Option Value)} (e : h.get? a = some ⟨c, d, .dict es.toArray n, sl⟩) (hk : strKeysB es = true) : h.Ns a (fun x => nsFind es.toArray x) := by
  refine ⟨_, es.toArray, n, e, rfl, fun en hen => ?_, fun _ => rfl⟩
  have := List.all_eq_true.mp hk en (by simpa using hen)
  split at this
  · rename_i s t hs; exact ⟨s, t, hs⟩
  · injection this
noncomputable def fnVarsB (fd : FnD) (fdt : FuncData) : Bool := decide fd.vars.Nodup && fd.vars.all (fun v => !(v == ("__debug__" : Str))) && decide (fd.np ≤ fd.vars.length) && fd.vars.all (fun v => fdt.scope.names.lookup v == some .local || fdt.scope.names.lookup v == some .cell) && plainArgs fdt (fd.vars.take fd.np)
noncomputable def fnB (c : Cls) (F : List FnD) (fd : FnD) (fdt : FuncData) : Bool :=
  (match fdt.body with | .stmts b => trLSs c F ⟨fdt.scope.names, fd.vars⟩ fd.body b | _ => false) && fdt.scope.kind == .function && !fdt.scope.isGenerator && !fdt.scope.isCoroutine && fdt.closure.isEmpty && fdt.globals == mainGlobals && fdt.builtins == builtinsNs && fnVarsB fd fdt
theorem fnB_of {X : LX} {fd : FnD} {fdt : FuncData} (h : fnB X.x.c X.F fd fdt = true) : FDok X fdt fd := by
  unfold fnB fnVarsB at h
  simp only [Bool.and_eq_true, Bool.not_eq_true', beq_iff_eq, List.isEmpty_iff, List.all_eq_true, decide_eq_true_eq, Bool.or_eq_true] at h
  obtain ⟨⟨⟨⟨⟨⟨⟨h1, h2⟩, h3⟩, h4⟩, h5⟩, h6⟩, h7⟩, ⟨⟨⟨⟨v1, v2⟩, v3⟩, v4⟩, v5⟩⟩ := h
  refine ⟨?_, h2, h3, h4, h5, h6, h7, fun vals hl => bind_plain v5 ((List.take_sublist _ _).nodup v1) (by rw [hl, List.length_take]; lia), v1, v2, v3, v4⟩
  split at h1
  · rename_i b hb; exact ⟨b, hb, h1⟩
  · injection h1
theorem walk_of_law {l : OpenLaw} (hm : l.most = some 63) (hbn : l.bound = none) {q : Program} {loose : List Str} {XP : (Str → Option Value) → Heap → Prop} {YP : World → Heap → Prop} {d : DefRec} {kwd : List (Str × PySem.Expr)}
    (core : ∀ (w : World) (s₀ s₁ : Shared) (mg mb : Str → Option Value), Ground q loose [] XP w s₀ mg mb s₁.heap → YP w s₁.heap → ∀ (a : Addr) (o : Obj) (pm cd doc dV kV : Value), s₁.heap.get? a = some o → o.data = .func { PySem.Calls.docDef d.name d.params d.body d.scope pm cd doc with defaults := dV, kwdefaults := kV } →
      s₁.heap.CodeRec cd d.name → Dflts mg s₁.heap d.params kwd dV kV → ∀ (ns : List Int) (b : Addr) (its : Array Value), ns.length ≤ 63 → s₁.heap.IsList b its → IntsAre its.toList ns →
      ∀ R : Result → Shared → Prop, (∀ s', Kg s₁ s' → R (.ok (.ret (.bool true))) s') → codeAny (model l.prog w) callerA (.call (.ref a) ⟨[.ref b], []⟩) R s₁) :
    WalkO q loose XP YP l.row.toRowW d kwd (fun f vs => PySem.call f vs) := by
  intro w s₀ s₁ mg mb G Y a o pm cd doc dV kV ho hd hcd hD hmg hg args vals as hpre hlay hrd hwl hlo
  refine Classical.byContradiction fun hHid => ?_
  obtain ⟨h1, h2⟩ := pre_splitW hpre
  obtain ⟨d0, r0, rfl, h3, h4⟩ := hasAllW_cons h1
  refine hHid ?_
  clear hHid
  cases r0 with
  | cons _ _ => simp [WShape.hasAll] at h4
  | nil =>
    obtain ⟨xs, rfl, h5⟩ := hasW_list h3
    obtain ⟨ns, rfl⟩ := items_int h5
    have hlen : ns.length ≤ 63 := by
      have hp : l.row.toRowW.pre = .and (.not (.lt (.lit (.int 63)) (.len (.arg 0)))) (.lit (.bool true)) := by
        show l.pre = _
        unfold OpenLaw.pre
        rw [hm, hbn]
        rfl
      rw [hp] at h2
      obtain ⟨h6, _⟩ := holds_andW h2
      have hv := w_not (R := l.row.toRowW.records) (e := { args := [.list (ns.map .int)] }) (w_lt (a := .lit (.int 63)) (b := .len (.arg 0)) w_lit (w_len_list (w_arg rfl)))
      unfold WTm.holds at h6
      rw [hv] at h6
      split at h6
      · rename_i q
        have q1 := WData.bool.inj (Option.some.inj q)
        simp only [Bool.not_eq_true', decide_eq_false_iff_not, List.length_map] at q1
        lia
      · injection h6
    cases hrd with
    | cons r1 rr =>
      cases rr
      cases r1 with
      | list ho' hc' hd' ra =>
        rename_i b ob vs n' as'
        have hints : ∀ (vs : List Value) (ns : List Int) (as : List Addr), ReadsAllW l.row.toRowW.records (classAt s₀.heap) s₁.heap vs (ns.map .int) as → IntsAre vs ns := by
          intro vs ns
          induction ns generalizing vs with
          | nil => intro as h; cases h; exact .nil
          | cons n ns ih =>
            intro as h
            cases h with
            | cons r h => cases r; exact .cons _ _ (ih _ _ h)
        refine wpAny_call (core w s₀ s₁ mg mb G Y a o pm cd doc dV kV ho hd hcd hD ns b vs hlen ⟨ob, ho', hc', n', hd'⟩ (hints _ _ _ ra) _ fun s' k => ?_)
        refine GoodW.toG ⟨.inl ⟨.bool true, .bool true, [], rfl, fun cls => rfl, .bool true, ?_, fun _ => ⟨List.nodup_nil, fun a ha => nomatch ha⟩⟩, k.grow, ?_, ?_⟩
        · exact postW_of (by rfl) (w_eq_bool (w_res rfl) w_lit) (by rfl)
        · obtain ⟨h', t', rfl, _⟩ := k; rfl
        · obtain ⟨h', t', rfl, _⟩ := k; exact hg
end Mine

end
section
open PySem PySem.W PyProof.Rows
set_option maxRecDepth 100000
set_option maxHeartbeats 1000000
set_option linter.unusedSimpArgs false
set_option linter.unusedVariables false
namespace Mine
noncomputable def initArgs (fd : FuncData) (T : Addr) : Bool :=
  fd.params.posonlyargs.isEmpty && fd.params.vararg.isNone && fd.params.kwonlyargs.isEmpty && fd.params.kwarg.isNone && fd.defaults == .ref T && fd.params.args.map (·.arg) == [("self" : Str), ("memory" : Str), ("pc" : Str)]
theorem three_args {l : List Arg} (h : l.map (·.arg) = [("self" : Str), ("memory" : Str), ("pc" : Str)]) : ∃ t1 p1 t2 p2 t3 p3, l = [⟨"self", t1, p1⟩, ⟨"memory", t2, p2⟩, ⟨"pc", t3, p3⟩] := by
  match l, h with
  | [⟨n1, t1, p1⟩, ⟨n2, t2, p2⟩, ⟨n3, t3, p3⟩], h =>
    simp only [List.map_cons, List.map_nil, List.cons.injEq, and_true] at h
    obtain ⟨rfl, rfl, rfl⟩ := h
    exact ⟨_, _, _, _, _, _, rfl⟩
theorem bind_init {K : Frag} {s : Shared} {fd : FuncData} {T : Addr} {d1 d2 : Value} (h : initArgs fd T = true) (hT : K.lookup T = some (tupO [d1, d2])) (X : K.In s.heap) (a b c : Value) :
    BindsTo s fd ⟨[a, b, c], []⟩ [("self", a), ("memory", b), ("pc", c)] ∧ BindsTo s fd ⟨[a], [("memory", b), ("pc", c)]⟩ [("self", a), ("memory", b), ("pc", c)] := by
  unfold initArgs at h
  simp only [Bool.and_eq_true, List.isEmpty_iff, Option.isNone_iff_eq_none, beq_iff_eq] at h
  obtain ⟨⟨⟨⟨⟨h1, h2⟩, h3⟩, h4⟩, h5⟩, h6⟩ := h
  obtain ⟨t1, p1, t2, p2, t3, p3, h7⟩ := three_args h6
  obtain ⟨name, qualname, ⟨po, ar, va, ko, kd, kw, df⟩, body, scope, globals, closure, defaults, kwdefaults, doc, pm, ann, code, ct, bl⟩ := fd
  dsimp only at h1 h2 h3 h4 h5 h7
  subst h1 h2 h3 h4 h5 h7
  exact ⟨BindsTo.of_defaults rfl (X _ _ hT) rfl rfl rfl, BindsTo.of_defaults rfl (X _ _ hT) rfl rfl rfl⟩
noncomputable def methsB (K : Frag) (C : Addr) (c : Cls) (fnA : Nat → Addr) (im : Nat) : Nat → List MethD → Bool
  | _, [] => true
  | m, md :: r => methB (m != im) K C c fnA m md && methsB K C c fnA im (m + 1) r
theorem methsB_of {K : Frag} {C : Addr} {c : Cls} {fnA : Nat → Addr} {im : Nat} : ∀ {l : List MethD} {k : Nat}, methsB K C c fnA im k l = true → ∀ m md, l[m]? = some md → methB (k + m != im) K C c fnA (k + m) md = true
  | [], k, _, m, md, e => by simp at e
  | a :: l, k, h, 0, md, e => by
    unfold methsB at h
    simp at e; subst e
    exact (Bool.and_eq_true_iff.mp h).1
  | a :: l, k, h, m + 1, md, e => by
    unfold methsB at h
    have := methsB_of (Bool.and_eq_true_iff.mp h).2 m md (by simpa using e)
    rwa [show k + 1 + m = k + (m + 1) by lia] at this
theorem in_of_tree {s : SharedT} {K : Frag} (h : K.map (fun p => (Nat.blt p.1 s.n, (s.tree.get p.1).map alive)) = K.map (fun p => (true, some (some p.2)))) : (K.map (·.1)).map s.abs.heap.get? = K.map fun p => some p.2 := by
  rw [List.map_map]
  rw [List.map_inj_left] at h ⊢
  intro p hp
  have := h p hp
  rw [Prod.mk.injEq] at this
  obtain ⟨h1, h2⟩ := this
  obtain ⟨o, g, e⟩ := Option.map_eq_some_iff.mp h2
  show (absHeap s.tree s.n s.life).get? p.1 = some p.2
  rw [abs_get (Nat.blt_eq.mp h1) g, e]
theorem seen_of {KK : Params → Frag} {as : List Addr} (e : ∀ P, as = (KK P).map (·.1)) {s : SharedT} {w : World} (h : (KK w.params).map (fun p => (Nat.blt p.1 s.n, (s.tree.get p.1).map alive)) = (KK w.params).map (fun p => (true, some (some p.2)))) : (kHook KK as e).obs s.abs = (kHook KK as e).val w := by
  show as.map s.abs.heap.get? = (KK w.params).map fun p => some p.2
  rw [e w.params]
  exact in_of_tree h
theorem left_of {p q : Program} {loose : List Str} {Xt : Shared → Bool} {H : Hook} {N : Nat} {g0 : Bool} {H₀ : Params → Heap} {gs₀ : Array GenState} {d₀ : Drawn} {k₀ : Nat} {m₀ : Nat} {ann : Option Value} {F : World → OsState → SharedT}
    (open_ : ∀ w : World, (fencedOpening treeTable p w N).map (fun s => (s.heap, s.gens, s.drawn, s.toks)) = some (H₀ w.params, gs₀, d₀, k₀))
    (size : ∀ w : World, ((H₀ w.params).isNs mainGlobals && gs₀.size == 0, (H₀ w.params).objs.size, (H₀ w.params).nsMap mainGlobals "__annotations__") = (true, m₀, ann))
    (run : ∀ (w : World) (os : OsState), ∃ M, M ≤ N ∧ topRun treeTable p w m₀ ann M ⟨H₀ w.params, gs₀, d₀, k₀, os⟩ (topStub p) = some (F w os).abs)
    (looks : ∀ (w : World) (os : OsState), ((staticsOk (importedModules p.main.body) (H₀ w.params) (F w os).abs.heap && namesBound p (F w os).abs.heap && gensDone (F w os).abs && laidKept (H₀ w.params) (F w os).abs.heap),
        openSeen q loose (importedModules p.main.body) Xt g0 (F w os).abs) = (true, openGood q loose))
    (seen : ∀ (w : World) (os : OsState), H.obs (F w os).abs = H.val w) : LeftO p q loose Xt H.obs H.val N g0 :=
  LeftO.of_run (F := fun w os => (F w os).abs) open_ size run fun w os => by
    have h := looks w os
    rw [Prod.mk.injEq] at h
    rw [h.1, h.2, seen w os]
theorem caller_ok {j : Nat} (hj : j ≤ 8) : AOk callerA (j + deep + 3) := by
  refine ⟨rfl, ?_, ?_⟩
  · have : callerA.depth + (8 + deep + 3) ≤ recursionLimit := by decide +kernel
    lia
  · have : callerA.units + 4 * (8 + deep + 3) + 80 < cLine := by decide +kernel
    lia
theorem law_core {X : LX} (OK : LOk X) (FO : FnsOk X) {fdt : FuncData} {fd : FnD} (S : FDok X fdt fd) {s : Shared} (hs : X.x.h₀ = s.heap) (np : fd.np = 1) {a : Addr} {o : Obj} (ho : s.heap.get? a = some o) (hd : o.data = .func fdt) (hcd : s.heap.CodeRec fdt.code fdt.qualname)
    {ns : List Int} {b : Addr} {its : Array Value} (hl : ns.length ≤ 63) (li : s.heap.IsList b its) (ia : IntsAre its.toList ns) {j : Nat} (hj : j ≤ 8)
    (D : ∃ ρ', exLs X.x.c X.im X.fuel (callL X.x.c X.im X.fuel X.F j) fd.body (some (.ints ns) :: List.replicate (fd.vars.length - 1) none) = some (.ret (.bool true), ρ')) {R : Result → Shared → Prop}
    (post : ∀ s', Kg s s' → R (.ok (.ret (.bool true))) s') : codeAny (model X.x.prog X.x.w) callerA (.call (.ref a) ⟨[.ref b], []⟩) R s := by
  obtain ⟨ρ', D⟩ := D
  refine run_fn OK (caller_ok hj) (fun A' a' => sound_callL OK FO j A' a') S ho hd (hs ▸ FO.lim) hcd (args := [.ints ns]) (vals := [.ref b]) (N := fun _ => False) (by rw [np]; rfl) rfl (by rw [np]; exact D) (fun q => by injection q) (fun _ _ e => hs ▸ e) (fun _ q => q.elim) (.cons ⟨b, its, rfl, fun q => q, li, ia, Nat.le_trans hl (by decide)⟩ .nil) fun y s' r k => ?_
  have : y = .bool true := r
  subst this
  exact post s' k
theorem row_holds {l : OpenLaw} {p q : Program} {loose : List Str} {Xt : Shared → Bool} {H : Hook} {N : Nat} {d : DefRec} (hp : l.prog = p) (hm : l.most = some 63) (hbn : l.bound = none) (hwr : l.writes = false)
    (left : LeftO p q loose Xt H.obs H.val N true) (hXt : ∀ s, Xt s = (xlAt q [] s && recOk (RowW.records l.row.toRowW) s))
    (hdef : defOf q l.name = some (d, [])) (hthe : p.theDef l.name = some (d.params, d.body, d.scope)) (hkw : kwWritten? d.params.kwonlyargs d.params.kw_defaults = some []) (hdfl : d.params.defaults = [])
    (said : l.row.wellSaid = true) (ok : (chainsOk q && opensWell p && (frees l.row.toRowW && l.row.within.isEmpty)) = true) (hb : p.bare) (hw : l.row.toRowW.promised)
    (core : ∀ (w : World) (s : Shared) (mb : Str → Option Value), H.says w s.heap → s.heap.NoLimit → s.heap.Ns builtinsNs mb → (∀ x : Str, x ≠ "__name__" → mb x = bootBuiltins x) → ∀ (a : Addr) (o : Obj) (pm cd doc kV : Value), s.heap.get? a = some o →
      o.data = .func { PySem.Calls.docDef d.name d.params d.body d.scope pm cd doc with defaults := .none, kwdefaults := kV } → s.heap.CodeRec cd d.name → ∀ (ns : List Int) (b : Addr) (its : Array Value), ns.length ≤ 63 → s.heap.IsList b its → IntsAre its.toList ns →
      ∀ R : Result → Shared → Prop, (∀ s', Kg s s' → R (.ok (.ret (.bool true))) s') → codeAny (model p w) callerA (.call (.ref a) ⟨[.ref b], []⟩) R s) : l.row.Holds := by
  subst hp
  refine PySem.W.holds_open (r := l.row) (q := q) (loose := loose) (Xt := Xt) (XP := XL q []) (Yf := H.obs) (Ya := H.val) (YP := H.says) (d := d) (kwd := []) (N := N) left H.of H.keeps (fun s e => xl_of s ?_) XL.keeps
    hdef hthe hkw (fun s e => recFacts_of ?_) ?_ said ok hb hw (walk_of_law hm hbn ?_)
  · rw [hXt] at e; exact (Bool.and_eq_true_iff.mp e).1
  · rw [hXt] at e; exact (Bool.and_eq_true_iff.mp e).2
  · show (!l.writes || _) = true
    rw [hwr]; rfl
  · intro w s₀ s₁ mg mb G Y a o pm cd doc dV kV ho hd hcd hD ns b its hl li ia R post
    obtain rfl := Dflts.none hD hdfl
    exact core w s₁ mb Y G.T.nolimit G.T.b G.T.builtins a o pm cd doc kV ho hd hcd ns b its hl li ia R post
end Mine

end
section
open PySem PySem.W PyProof.Rows
set_option maxRecDepth 100000
set_option maxHeartbeats 0
namespace Mine
noncomputable def pk (n v bb d i z c : Bool) : Int := cond n 128 0 + cond v 64 0 + 32 + cond bb 16 0 + cond d 8 0 + cond i 4 0 + cond z 2 0 + cond c 1 0
noncomputable abbrev bAnd := Builtin.bitAnd
noncomputable abbrev bOr := Builtin.bitOr
noncomputable abbrev bXor := Builtin.bitXor
noncomputable abbrev bNot := Builtin.bitNot
theorem pk_nz : ∀ n v bb d i z c, bAnd (pk n v bb d i z c) (bNot (bOr 2 128)) = pk false v bb d i false c := by decide +kernel
theorem pk_orZ : ∀ n v bb d i z c, bOr (pk n v bb d i z c) 2 = pk n v bb d i true c := by decide +kernel
theorem pk_orC : ∀ n v bb d i z c, bOr (pk n v bb d i z c) 1 = pk n v bb d i z true := by decide +kernel
theorem pk_or0 : ∀ n v bb d i z c, bOr (pk n v bb d i z c) 0 = pk n v bb d i z c := by decide +kernel
theorem pk_orN : ∀ n v bb d i z c, bOr (pk n v bb d i z c) 128 = pk true v bb d i z c := by decide +kernel
theorem pk_orV : ∀ n v bb d i z c, bOr (pk n v bb d i z c) 64 = pk n true bb d i z c := by decide +kernel
theorem pk_clC : ∀ n v bb d i z c, bAnd (pk n v bb d i z c) (bNot 1) = pk n v bb d i z false := by decide +kernel
theorem pk_cvnz : ∀ n v bb d i z c, bAnd (pk n v bb d i z c) (bNot (bOr (bOr (bOr 1 64) 128) 2)) = pk false false bb d i false false := by decide +kernel
theorem pk_czvn : ∀ n v bb d i z c, bAnd (pk n v bb d i z c) (bNot (bOr (bOr (bOr 1 2) 64) 128)) = pk false false bb d i false false := by decide +kernel
theorem pk_C : ∀ n v bb d i z c, bAnd (pk n v bb d i z c) 1 = cond c 1 0 := by decide +kernel
theorem pk_Z : ∀ n v bb d i z c, bAnd (pk n v bb d i z c) 2 = cond z 2 0 := by decide +kernel
theorem pk_D : ∀ n v bb d i z c, bAnd (pk n v bb d i z c) 8 = cond d 8 0 := by decide +kernel
noncomputable def Oct (v : Int) : Prop := 0 ≤ v ∧ v < 256
theorem oct_ind {P : Int → Prop} (h : ∀ n : Nat, n < 256 → P n) {v : Int} (o : Oct v) : P v := by
  obtain ⟨h0, h1⟩ := o
  have := h v.toNat (by lia)
  rwa [Int.toNat_of_nonneg h0] at this
theorem oct_128 {v : Int} (o : Oct v) : bAnd v 128 = cond (decide (128 ≤ v)) 128 0 := oct_ind (P := fun v => bAnd v 128 = cond (decide (128 ≤ v)) 128 0) (by decide +kernel) o
theorem oct_not {v : Int} (o : Oct v) : bAnd (bNot v) 255 = 255 - v := oct_ind (P := fun v => bAnd (bNot v) 255 = 255 - v) (by decide +kernel) o
theorem oct_inc {v : Int} (o : Oct v) : bAnd (v + 1) 255 = (v + 1) % 256 := oct_ind (P := fun v => bAnd (v + 1) 255 = (v + 1) % 256) (by decide +kernel) o
theorem and_mask {v : Int} (k : Nat) (h : 0 ≤ v) : bAnd v ((2 ^ k - 1 : Nat) : Int) = v % 2 ^ k := by
  obtain ⟨n, rfl⟩ := Int.eq_ofNat_of_zero_le h
  have e1 : decide ((0 : Int) ≤ (n : Int)) = true := decide_eq_true (by lia)
  have e2 : decide ((0 : Int) ≤ ((2 ^ k - 1 : Nat) : Int)) = true := decide_eq_true (by lia)
  show Builtin.bitAnd _ _ = _
  unfold Builtin.bitAnd
  rw [e1, e2]
  show ((n &&& (2 ^ k - 1) : Nat) : Int) = _
  rw [Nat.and_two_pow_sub_one_eq_mod]
  exact Int.natCast_emod n (2 ^ k) |>.trans (by rw [Int.natCast_pow]; rfl)
theorem and_255 {v : Int} (h : 0 ≤ v) : bAnd v 255 = v % 256 := and_mask 8 h
theorem and_65535 {v : Int} (h : 0 ≤ v) (h1 : v < 65536) : bAnd v 65535 = v := (and_mask 16 h).trans (Int.emod_eq_of_lt h h1)
end Mine

end
section
open PySem PySem.W PyProof.Rows
set_option maxRecDepth 100000
set_option maxHeartbeats 0
set_option linter.unusedSimpArgs false
set_option linter.unusedVariables false
namespace Mine
noncomputable abbrev KM := V → M → Option (V × M)
section
variable (c : Cls) (ck : Nat → List V → M → KM → Option (V × M)) (ρ : Loc)
noncomputable def kE : E → M → KM → Option (V × M)
  | .int i, σ, k => k (.int i) σ
  | .none, σ, k => k .none σ
  | .var v, σ, k => (ρ.at v).bind fun x => k x σ
  | .fld f, σ, k => (σ.get f).got?.bind fun v => k v σ
  | .cst j, σ, k => (c.csts[j]?).bind fun x => k (.int x.2) σ
  | .mref m, σ, k => k (.meth m) σ
  | .mem i, σ, k => cond σ.hm (kE i σ fun v σ' => v.int?.bind fun j => (at? σ'.mem j).bind fun x => k (.int x) σ') Option.none
  | .tab t i, σ, k => kE i σ fun v σ' => v.int?.bind fun j => (c.tabs[t]?).bind fun l => (at? l.2 j).bind fun x => k (.int x) σ'
  | .bin op a b, σ, k => kE a σ fun u σ₁ => u.int?.bind fun i => kE b σ₁ fun w σ₂ => w.int?.bind fun j => (op.ev i j).bind fun r => k (.int r) σ₂
  | .inv a, σ, k => kE a σ fun u σ₁ => u.int?.bind fun i => k (.int (Builtin.bitNot i)) σ₁
  | .cmp op a b, σ, k => kE a σ fun u σ₁ => u.int?.bind fun i => kE b σ₁ fun w σ₂ => w.int?.bind fun j => k (.bool (op.ev i j)) σ₂
  | .isNone v, σ, k => (ρ.at v).bind fun u => u.isN?.bind fun b => k (.bool b) σ
  | .isNoneF f, σ, k => (σ.get f).isNF?.bind fun b => k (.bool b) σ
  | .txt, σ, k => k .txt σ
  | .bool b, σ, k => k (.bool b) σ
  | .stuck, _, _ => Option.none
  | .call0 m, σ, k => ck m [] σ k
  | .call1 m a, σ, k => kE a σ fun u σ₁ => ck m [u] σ₁ k
  | .call2 m a b, σ, k => kE a σ fun u σ₁ => kE b σ₁ fun w σ₂ => ck m [u, w] σ₂ k
  | .callV v, σ, k => (ρ.at v).bind fun u => u.meth?.bind fun m => ck m [] σ k
  | .callT i, σ, k => kE i σ fun u σ₁ => u.int?.bind fun j => if 0 ≤ j then (c.instr[j.toNat]?).bind fun m => ck m [] σ₁ k else Option.none
end
noncomputable abbrev KS := Fl → Loc → M → Option (V × M)
section
variable (c : Cls) (ck : Nat → List V → M → KM → Option (V × M))
mutual
noncomputable def kS : S → Loc → M → KS → Option (V × M)
  | .expr e, ρ, σ, k => kE c ck ρ e σ fun _ σ₁ => k .next ρ σ₁
  | .asgV v e, ρ, σ, k => kE c ck ρ e σ fun x σ₁ => if v < ρ.length then k .next (ρ.set v (some x)) σ₁ else Option.none
  | .asgF f e, ρ, σ, k => kE c ck ρ e σ fun u σ₁ => u.flat?.bind fun x => (σ₁.set f x).bind fun σ₂ => k .next ρ σ₂
  | .asgM i e, ρ, σ, k => kE c ck ρ e σ fun u σ₁ => u.int?.bind fun x => cond σ₁.hm (kE c ck ρ i σ₁ fun w σ₂ => w.int?.bind fun j => (putAt σ₂.mem j x).bind fun l => k .next ρ { σ₂ with mem := l }) Option.none
  | .augV v op e, ρ, σ, k => (ρ.at v).bind fun u => u.int?.bind fun a => kE c ck ρ e σ fun w σ₁ => w.int?.bind fun b => (op.ev a b).bind fun r => if v < ρ.length then k .next (ρ.set v (some (.int r))) σ₁ else Option.none
  | .augF f op e, ρ, σ, k => (σ.get f).int?.bind fun a => kE c ck ρ e σ fun w σ₁ => w.int?.bind fun b => (op.ev a b).bind fun r => (σ₁.set f (.int r)).bind fun σ₂ => k .next ρ σ₂
  | .ite t a b, ρ, σ, k => kE c ck ρ t σ fun v σ₁ => (truth v).bind fun q => cond q (kSs a ρ σ₁ k) (kSs b ρ σ₁ k)
  | .ret e, ρ, σ, k => kE c ck ρ e σ fun v σ₁ => k (.ret v) ρ σ₁
  | .ret0, ρ, σ, k => k (.ret .none) ρ σ
  | .pass, ρ, σ, k => k .next ρ σ
noncomputable def kSs : Ss → Loc → M → KS → Option (V × M)
  | .nil, ρ, σ, k => k .next ρ σ
  | .cons s r, ρ, σ, k => kS s ρ σ fun fl ρ₁ σ₁ => match fl with
    | .next => kSs r ρ₁ σ₁ k
    | .ret v => k (.ret v) ρ₁ σ₁
end
end
noncomputable def callK (c : Cls) : Nat → Nat → List V → M → KM → Option (V × M)
  | 0, _, _, _, _ => Option.none
  | d + 1, m, args, σ, k => (c.P[m]?).bind fun md => if args.length + 1 = md.np then kSs c (callK c d) md.body ((some V.self :: args.map some) ++ List.replicate (md.vars.length - md.np) Option.none) σ fun fl _ σ' => k fl.out σ' else Option.none
section
variable {α β γ : Type}
theorem ob_assoc {o : Option α} {f : α → Option β} {g : β → Option γ} : (o.bind f).bind g = o.bind fun a => (f a).bind g := Option.bind_assoc _ _ _
theorem ob_map {o : Option α} {f : α → β} {g : β → Option γ} : (o.map f).bind g = o.bind fun a => g (f a) := by cases o <;> rfl
theorem ob_cond {b : Bool} {x y : Option α} {f : α → Option β} : (cond b x y).bind f = cond b (x.bind f) (y.bind f) := by cases b <;> rfl
theorem ob_ite {p : Prop} [Decidable p] {x : Option α} {f : α → Option β} : (if p then x else none).bind f = if p then x.bind f else none := by by_cases h : p <;> simp [h]
end
section
variable {c : Cls} {cf : Nat → List V → M → Option (V × M)} {ck : Nat → List V → M → KM → Option (V × M)} {ρ : Loc} {σ : M}
theorem kE_int : kE c ck ρ (.int i) σ k = k (.int i) σ := rfl
theorem kE_none : kE c ck ρ (.none) σ k = k .none σ := rfl
theorem kE_var : kE c ck ρ (.var v) σ k = (ρ.at v).bind fun x => k x σ := rfl
theorem kE_fld : kE c ck ρ (.fld f) σ k = (σ.get f).got?.bind fun v => k v σ := rfl
theorem kE_cst : kE c ck ρ (.cst j) σ k = (c.csts[j]?).bind fun x => k (.int x.2) σ := rfl
theorem kE_mref : kE c ck ρ (.mref m) σ k = k (.meth m) σ := rfl
theorem kE_mem : kE c ck ρ (.mem i) σ k = cond σ.hm (kE c ck ρ i σ fun v σ' => v.int?.bind fun j => (at? σ'.mem j).bind fun x => k (.int x) σ') Option.none := rfl
theorem kE_tab : kE c ck ρ (.tab t i) σ k = kE c ck ρ i σ fun v σ' => v.int?.bind fun j => (c.tabs[t]?).bind fun l => (at? l.2 j).bind fun x => k (.int x) σ' := rfl
theorem kE_bin : kE c ck ρ (.bin op a b) σ k = kE c ck ρ a σ fun u σ₁ => u.int?.bind fun i => kE c ck ρ b σ₁ fun w σ₂ => w.int?.bind fun j => (op.ev i j).bind fun r => k (.int r) σ₂ := rfl
theorem kE_inv : kE c ck ρ (.inv a) σ k = kE c ck ρ a σ fun u σ₁ => u.int?.bind fun i => k (.int (Builtin.bitNot i)) σ₁ := rfl
theorem kE_cmp : kE c ck ρ (.cmp op a b) σ k = kE c ck ρ a σ fun u σ₁ => u.int?.bind fun i => kE c ck ρ b σ₁ fun w σ₂ => w.int?.bind fun j => k (.bool (op.ev i j)) σ₂ := rfl
theorem kE_isNone : kE c ck ρ (.isNone v) σ k = (ρ.at v).bind fun u => u.isN?.bind fun b => k (.bool b) σ := rfl
theorem kE_isNoneF : kE c ck ρ (.isNoneF f) σ k = (σ.get f).isNF?.bind fun b => k (.bool b) σ := rfl
theorem kE_txt : kE c ck ρ (.txt) σ k = k .txt σ := rfl
theorem kE_bool : kE c ck ρ (.bool b) σ k = k (.bool b) σ := rfl
theorem kE_stuck : kE c ck ρ (.stuck) u0 u1 = Option.none := rfl
theorem kE_call0 : kE c ck ρ (.call0 m) σ k = ck m [] σ k := rfl
theorem kE_call1 : kE c ck ρ (.call1 m a) σ k = kE c ck ρ a σ fun u σ₁ => ck m [u] σ₁ k := rfl
theorem kE_call2 : kE c ck ρ (.call2 m a b) σ k = kE c ck ρ a σ fun u σ₁ => kE c ck ρ b σ₁ fun w σ₂ => ck m [u, w] σ₂ k := rfl
theorem kE_callV : kE c ck ρ (.callV v) σ k = (ρ.at v).bind fun u => u.meth?.bind fun m => ck m [] σ k := rfl
theorem kE_callT : kE c ck ρ (.callT i) σ k = kE c ck ρ i σ fun u σ₁ => u.int?.bind fun j => if 0 ≤ j then (c.instr[j.toNat]?).bind fun m => ck m [] σ₁ k else Option.none := rfl
theorem evE_int : evE c cf ρ (.int i) σ = some (.int i, σ) := rfl
theorem evE_none : evE c cf ρ (.none) σ = some (.none, σ) := rfl
theorem evE_var : evE c cf ρ (.var v) σ = (ρ.at v).map fun x => (x, σ) := rfl
theorem evE_fld : evE c cf ρ (.fld f) σ = ((σ.get f).got?).map fun v => (v, σ) := rfl
theorem evE_cst : evE c cf ρ (.cst k) σ = (c.csts[k]?).map fun x => (.int x.2, σ) := rfl
theorem evE_mref : evE c cf ρ (.mref m) σ = some (.meth m, σ) := rfl
theorem evE_mem : evE c cf ρ (.mem i) σ = cond σ.hm (onI (evE c cf ρ i σ) fun k σ' => (at? σ'.mem k).map fun x => (.int x, σ')) Option.none := rfl
theorem evE_tab : evE c cf ρ (.tab t i) σ = onI (evE c cf ρ i σ) fun k σ' => (c.tabs[t]?).bind fun l => (at? l.2 k).map fun x => (.int x, σ') := rfl
theorem evE_bin : evE c cf ρ (.bin op a b) σ = onI (evE c cf ρ a σ) fun i σ₁ => onI (evE c cf ρ b σ₁) fun j σ₂ => (op.ev i j).map fun r => (.int r, σ₂) := rfl
theorem evE_inv : evE c cf ρ (.inv a) σ = onI (evE c cf ρ a σ) fun i σ₁ => some (.int (Builtin.bitNot i), σ₁) := rfl
theorem evE_cmp : evE c cf ρ (.cmp op a b) σ = onI (evE c cf ρ a σ) fun i σ₁ => onI (evE c cf ρ b σ₁) fun j σ₂ => some (.bool (op.ev i j), σ₂) := rfl
theorem evE_isNone : evE c cf ρ (.isNone v) σ = (ρ.at v).bind fun u => u.isN?.map fun b => (.bool b, σ) := rfl
theorem evE_isNoneF : evE c cf ρ (.isNoneF f) σ = (σ.get f).isNF?.map fun b => (.bool b, σ) := rfl
theorem evE_txt : evE c cf ρ (.txt) σ = some (.txt, σ) := rfl
theorem evE_bool : evE c cf ρ (.bool b) σ = some (.bool b, σ) := rfl
theorem evE_stuck : evE c cf ρ (.stuck) u0 = Option.none := rfl
theorem evE_call0 : evE c cf ρ (.call0 m) σ = cf m [] σ := rfl
theorem evE_call1 : evE c cf ρ (.call1 m a) σ = (evE c cf ρ a σ).bind fun r => cf m [r.1] r.2 := rfl
theorem evE_call2 : evE c cf ρ (.call2 m a b) σ = (evE c cf ρ a σ).bind fun r => (evE c cf ρ b r.2).bind fun r₂ => cf m [r.1, r₂.1] r₂.2 := rfl
theorem evE_callV : evE c cf ρ (.callV v) σ = (ρ.at v).bind fun u => u.meth?.bind fun m => cf m [] σ := rfl
theorem evE_callT : evE c cf ρ (.callT i) σ = onI (evE c cf ρ i σ) fun k σ₁ => if 0 ≤ k then (c.instr[k.toNat]?).bind fun m => cf m [] σ₁ else Option.none := rfl
end
section
variable {c : Cls} {cf : Nat → List V → M → Option (V × M)} {ck : Nat → List V → M → KM → Option (V × M)} {ρ : Loc} {σ : M}
theorem kS_expr : kS c ck (.expr e) ρ σ k = kE c ck ρ e σ fun _ σ₁ => k .next ρ σ₁ := rfl
theorem kS_asgV : kS c ck (.asgV v e) ρ σ k = kE c ck ρ e σ fun x σ₁ => if v < ρ.length then k .next (ρ.set v (some x)) σ₁ else Option.none := rfl
theorem kS_asgF : kS c ck (.asgF f e) ρ σ k = kE c ck ρ e σ fun u σ₁ => u.flat?.bind fun x => (σ₁.set f x).bind fun σ₂ => k .next ρ σ₂ := rfl
theorem kS_asgM : kS c ck (.asgM i e) ρ σ k = kE c ck ρ e σ fun u σ₁ => u.int?.bind fun x => cond σ₁.hm (kE c ck ρ i σ₁ fun w σ₂ => w.int?.bind fun j => (putAt σ₂.mem j x).bind fun l => k .next ρ { σ₂ with mem := l }) Option.none := rfl
theorem kS_augV : kS c ck (.augV v op e) ρ σ k = (ρ.at v).bind fun u => u.int?.bind fun a => kE c ck ρ e σ fun w σ₁ => w.int?.bind fun b => (op.ev a b).bind fun r => if v < ρ.length then k .next (ρ.set v (some (.int r))) σ₁ else Option.none := rfl
theorem kS_augF : kS c ck (.augF f op e) ρ σ k = (σ.get f).int?.bind fun a => kE c ck ρ e σ fun w σ₁ => w.int?.bind fun b => (op.ev a b).bind fun r => (σ₁.set f (.int r)).bind fun σ₂ => k .next ρ σ₂ := rfl
theorem kS_ite : kS c ck (.ite t a b) ρ σ k = kE c ck ρ t σ fun v σ₁ => (truth v).bind fun q => cond q (kSs c ck a ρ σ₁ k) (kSs c ck b ρ σ₁ k) := rfl
theorem kS_ret : kS c ck (.ret e) ρ σ k = kE c ck ρ e σ fun v σ₁ => k (.ret v) ρ σ₁ := rfl
theorem exS_expr : exS c cf (.expr e) ρ σ = (evE c cf ρ e σ).map fun r => (.next, ρ, r.2) := rfl
theorem exS_asgV : exS c cf (.asgV v e) ρ σ = (evE c cf ρ e σ).bind fun r => if v < ρ.length then some (.next, ρ.set v (some r.1), r.2) else Option.none := rfl
theorem exS_asgF : exS c cf (.asgF f e) ρ σ = (evE c cf ρ e σ).bind fun r => r.1.flat?.bind fun x => (r.2.set f x).map fun σ₂ => (.next, ρ, σ₂) := rfl
theorem exS_augV : exS c cf (.augV v op e) ρ σ = (ρ.at v).bind fun u => u.int?.bind fun a => onI (evE c cf ρ e σ) fun b σ₁ => (op.ev a b).bind fun r => if v < ρ.length then some (.next, ρ.set v (some (.int r)), σ₁) else Option.none := rfl
theorem exS_augF : exS c cf (.augF f op e) ρ σ = (σ.get f).int?.bind fun a => onI (evE c cf ρ e σ) fun b σ₁ => (op.ev a b).bind fun r => (σ₁.set f (.int r)).map fun σ₂ => (.next, ρ, σ₂) := rfl
theorem exS_ite : exS c cf (.ite t a b) ρ σ = (evE c cf ρ t σ).bind fun r => (truth r.1).bind fun q => cond q (exSs c cf a ρ r.2) (exSs c cf b ρ r.2) := rfl
theorem exS_ret : exS c cf (.ret e) ρ σ = (evE c cf ρ e σ).map fun r => (.ret r.1, ρ, r.2) := rfl
end
theorem onI_bind {β γ : Type} {o : Option (V × M)} {f : Int → M → Option β} {g : β → Option γ} : (onI o f).bind g = o.bind fun r => r.1.int?.bind fun i => (f i r.2).bind g := by
  unfold onI
  rw [ob_assoc]
  exact congrArg _ (funext fun r => ob_assoc)
section
variable {c : Cls} {cf : Nat → List V → M → Option (V × M)} {ck : Nat → List V → M → KM → Option (V × M)} (H : ∀ m args σ k, ck m args σ k = (cf m args σ).bind fun r => k r.1 r.2)
include H
theorem kE_eq {ρ : Loc} (e : E) : ∀ (σ : M) (k : KM), kE c ck ρ e σ k = (evE c cf ρ e σ).bind fun r => k r.1 r.2 := by
  induction e <;> intro σ k <;> simp only [kE_int, kE_none, kE_var, kE_fld, kE_cst, kE_mref, kE_mem, kE_tab, kE_bin, kE_inv, kE_cmp, kE_isNone, kE_isNoneF, kE_txt, kE_bool, kE_stuck, kE_call0, kE_call1, kE_call2, kE_callV, kE_callT, evE_int, evE_none, evE_var, evE_fld, evE_cst, evE_mref, evE_mem, evE_tab, evE_bin, evE_inv, evE_cmp, evE_isNone, evE_isNoneF, evE_txt, evE_bool, evE_stuck, evE_call0, evE_call1, evE_call2, evE_callV, evE_callT, onI_bind, ob_assoc, ob_map, ob_cond, ob_ite, Option.bind_some, Option.bind_none, *]
mutual
theorem kS_eq : ∀ (s : S) (ρ : Loc) (σ : M) (k : KS), kS c ck s ρ σ k = (exS c cf s ρ σ).bind fun r => k r.1 r.2.1 r.2.2
  | .expr e, ρ, σ, k => by simp only [kS_expr, exS_expr, onI_bind, kE_eq H, ob_map]
  | .asgV v e, ρ, σ, k => by simp only [kS_asgV, exS_asgV, onI_bind, kE_eq H, ob_assoc, ob_ite, Option.bind_some]
  | .asgF f e, ρ, σ, k => by simp only [kS_asgF, exS_asgF, onI_bind, kE_eq H, ob_assoc, ob_map]
  | .asgM i e, ρ, σ, k => by simp only [kS_asgM, exS_asgM, onI_bind, kE_eq H, ob_assoc, ob_map, ob_cond, Option.bind_none]
  | .augV v op e, ρ, σ, k => by simp only [kS_augV, exS_augV, onI_bind, kE_eq H, ob_assoc, ob_ite, Option.bind_some]
  | .augF f op e, ρ, σ, k => by simp only [kS_augF, exS_augF, onI_bind, kE_eq H, ob_assoc, ob_map]
  | .ite t a b, ρ, σ, k => by simp only [kS_ite, exS_ite, onI_bind, kE_eq H, ob_assoc, ob_cond, kSs_eq a, kSs_eq b]
  | .ret e, ρ, σ, k => by simp only [kS_ret, exS_ret, onI_bind, kE_eq H, ob_map]
  | .ret0, ρ, σ, k => rfl
  | .pass, ρ, σ, k => rfl
theorem kSs_eq : ∀ (s : Ss) (ρ : Loc) (σ : M) (k : KS), kSs c ck s ρ σ k = (exSs c cf s ρ σ).bind fun r => k r.1 r.2.1 r.2.2
  | .nil, ρ, σ, k => rfl
  | .cons s r, ρ, σ, k => by
    show kS c ck s ρ σ _ = ((exS c cf s ρ σ).bind _).bind _
    rw [kS_eq s, ob_assoc]
    refine congrArg (Option.bind _) (funext fun q => ?_)
    obtain ⟨fl, ρ₁, σ₁⟩ := q
    cases fl with
    | next => exact kSs_eq r ρ₁ σ₁ k
    | ret v => rfl
end
end
theorem callK_eq (c : Cls) : ∀ (d m : Nat) (args : List V) (σ : M) (k : KM), callK c d m args σ k = (callM c d m args σ).bind fun r => k r.1 r.2
  | 0, _, _, _, _ => rfl
  | d + 1, m, args, σ, k => by
    show (c.P[m]?).bind _ = ((c.P[m]?).bind _).bind _
    rw [ob_assoc]
    refine congrArg (Option.bind _) (funext fun md => ?_)
    rw [ob_ite, kSs_eq (cf := callM c d) (fun m args σ k => callK_eq c d m args σ k), ob_map]
theorem callM_of {c : Cls} {d m : Nat} {args : List V} {σ : M} {r : Option (V × M)} (h : callK c d m args σ (fun v σ => some (v, σ)) = r) : callM c d m args σ = r := by
  rw [callK_eq] at h
  rw [← h]
  cases callM c d m args σ <;> rfl
section
variable {α β : Type}
theorem bE {o : Option α} {a : α} {f : α → Option β} {r : Option β} (h : o = some a) (k : f a = r) : o.bind f = r := by rw [h]; exact k
theorem cE {b : Bool} {x y r : α} (h1 : b = true → x = r) (h2 : b = false → y = r) : cond b x y = r := by cases b; exact h2 rfl; exact h1 rfl
theorem iE {p : Prop} [Decidable p] {x y r : α} (hp : p) (h : x = r) : (if p then x else y) = r := by rw [if_pos hp]; exact h
end
end Mine

end
section
open PySem PySem.W PyProof.Rows
set_option maxRecDepth 100000
set_option maxHeartbeats 0
set_option linter.unusedSimpArgs false
set_option linter.unusedVariables false
namespace Mine
theorem at_len {l : List Int} {k v : Int} (h : at? l k = some v) : 0 ≤ k ∧ k.toNat < l.length := by
  unfold at? at h
  split at h
  · rename_i q; exact ⟨q, (List.getElem?_eq_some_iff.mp h).1⟩
  · injection h
theorem put_at {l : List Int} {k v : Int} (h : at? l k = some v) (w : Int) : putAt l k w = some (l.set k.toNat w) := by
  unfold putAt
  rw [if_pos (at_len h)]
theorem oct_xor {v : Int} (o : Oct v) : bXor v 255 = 255 - v := oct_ind (P := fun v => bXor v 255 = 255 - v) (by decide +kernel) o
theorem nat_hi (n : Nat) (h : n < 65536) : n &&& 65280 = n / 256 * 256 := by
  have e : n &&& 65280 = ((n / 256) * 256 + n % 256) &&& 65280 := by rw [Nat.div_add_mod']
  apply Nat.eq_of_testBit_eq
  intro i
  rw [Nat.testBit_and, show (65280 : Nat) = 255 * 2 ^ 8 from rfl, show n / 256 * 256 = n / 2 ^ 8 * 2 ^ 8 from rfl, Nat.testBit_mul_two_pow, Nat.testBit_mul_two_pow, Nat.testBit_div_two_pow]
  by_cases hi : 8 ≤ i
  · simp only [hi, decide_true, Bool.true_and]
    rw [show i - 8 + 8 = i by omega]
    by_cases h16 : i < 16
    · have : Nat.testBit 255 (i - 8) = true := by
        have : ∀ j < 8, Nat.testBit 255 j = true := by decide
        exact this _ (by omega)
      rw [this, Bool.and_true]
    · have : n.testBit i = false := Nat.testBit_lt_two_pow (Nat.lt_of_lt_of_le h (Nat.pow_le_pow_right (n := 2) (i := 16) (j := i) (by decide) (by omega)))
      rw [this, Bool.false_and]
  · simp [hi]
theorem hi_of {v : Int} (h : 0 ≤ v) (h1 : v < 65536) : bAnd v 65280 = v / 256 * 256 := by
  obtain ⟨n, rfl⟩ := Int.eq_ofNat_of_zero_le h
  have e1 : decide ((0 : Int) ≤ (n : Int)) = true := decide_eq_true (by lia)
  show Builtin.bitAnd _ _ = _
  unfold Builtin.bitAnd
  rw [e1]
  show ((n &&& 65280 : Nat) : Int) = _
  rw [nat_hi n (by lia)]
  lia
theorem beq_d (a b : Int) : (a == b) = decide (a = b) := by by_cases h : a = b <;> simp [h]
section
variable {γ : Type} {n v bb d i z c : Bool} {w : Int}
theorem fl_NZ (F : Int → γ) (o : Oct w) : cond (w == 0) (F (bOr (bAnd (pk n v bb d i z c) (bNot (bOr 2 128))) 2)) (F (bOr (bAnd (pk n v bb d i z c) (bNot (bOr 2 128))) (bAnd w 128))) = F (pk (decide (128 ≤ w)) v bb d i (decide (w = 0)) c) := by
  rw [pk_nz, pk_orZ, oct_128 o, beq_d]
  by_cases h : w = 0
  · subst h; rfl
  · rw [decide_eq_false h]
    cases decide (128 ≤ w)
    · exact congrArg F (pk_or0 ..)
    · exact congrArg F (pk_orN ..)
theorem c_on : (bAnd (pk n v bb d i z c) 1 != 0) = c := by rw [pk_C]; cases c <;> rfl
theorem z_on : (bAnd (pk n v bb d i z c) 2 != 0) = z := by rw [pk_Z]; cases z <;> rfl
theorem d_on : (bAnd (pk n v bb d i z c) 8 != 0) = d := by rw [pk_D]; cases d <;> rfl
theorem neg_on (o : Oct w) : (bAnd w 128 != 0) = decide (128 ≤ w) := by rw [oct_128 o]; cases decide (128 ≤ w) <;> rfl
theorem nzc_end {r : Int} {q : Bool} (F : Int → Int → γ) (hr : 0 ≤ r) : cond (decide (r > 255)) (cond (bAnd r 255 == 0) (F (bAnd r 255) (bOr (bOr (pk false q bb false i false false) 1) 2)) (F (bAnd r 255) (bOr (bOr (pk false q bb false i false false) 1) (bAnd (bAnd r 255) 128))))
    (cond (r == 0) (F r (bOr (pk false q bb false i false false) 2)) (F r (bOr (pk false q bb false i false false) (bAnd r 128)))) = F (r % 256) (pk (decide (128 ≤ r % 256)) q bb false i (decide (r % 256 = 0)) (decide (255 < r))) := by
  have key : ∀ (b : Bool) {u : Int}, Oct u → cond (u == 0) (F u (bOr (pk false q bb false i false b) 2)) (F u (bOr (pk false q bb false i false b) (bAnd u 128))) = F u (pk (decide (128 ≤ u)) q bb false i (decide (u = 0)) b) := fun b u o => by
    rw [pk_orZ, oct_128 o, beq_d]
    by_cases h : u = 0
    · subst h; rfl
    · rw [decide_eq_false h]
      cases decide (128 ≤ u)
      · exact congrArg (F u) (pk_or0 ..)
      · exact congrArg (F u) (pk_orN ..)
  rw [pk_orC, and_255 hr]
  by_cases h : r > 255
  · rw [decide_eq_true h]
    exact key true ⟨by lia, by lia⟩
  · rw [decide_eq_false h, show r % 256 = r by lia]
    exact key false ⟨by lia, by lia⟩
theorem fl_ADC {a r : Int} (F : Int → Int → γ) (D : γ) (o : Oct w) (oa : Oct a) (hr : r = w + a + cond c 1 0) : cond (bAnd (pk n v bb false i z c) 8 != 0) D (cond (bAnd (pk n v bb false i z c) 1 != 0)
    (cond (bAnd (bAnd (bNot (bXor a w)) (bXor a ((w + a) + 1))) 128 != 0) (cond (decide ((w + a) + 1 > 255)) (cond (bAnd ((w + a) + 1) 255 == 0) (F (bAnd ((w + a) + 1) 255) (bOr (bOr (bOr (bAnd (pk n v bb false i z c) (bNot (bOr (bOr (bOr 1 64) 128) 2))) 64) 1) 2)) (F (bAnd ((w + a) + 1) 255) (bOr (bOr (bOr (bAnd (pk n v bb false i z c) (bNot (bOr (bOr (bOr 1 64) 128) 2))) 64) 1) (bAnd (bAnd ((w + a) + 1) 255) 128))))
        (cond ((w + a) + 1 == 0) (F ((w + a) + 1) (bOr (bOr (bAnd (pk n v bb false i z c) (bNot (bOr (bOr (bOr 1 64) 128) 2))) 64) 2)) (F ((w + a) + 1) (bOr (bOr (bAnd (pk n v bb false i z c) (bNot (bOr (bOr (bOr 1 64) 128) 2))) 64) (bAnd ((w + a) + 1) 128)))))
      (cond (decide ((w + a) + 1 > 255)) (cond (bAnd ((w + a) + 1) 255 == 0) (F (bAnd ((w + a) + 1) 255) (bOr (bOr (bAnd (pk n v bb false i z c) (bNot (bOr (bOr (bOr 1 64) 128) 2))) 1) 2)) (F (bAnd ((w + a) + 1) 255) (bOr (bOr (bAnd (pk n v bb false i z c) (bNot (bOr (bOr (bOr 1 64) 128) 2))) 1) (bAnd (bAnd ((w + a) + 1) 255) 128))))
        (cond ((w + a) + 1 == 0) (F ((w + a) + 1) (bOr (bAnd (pk n v bb false i z c) (bNot (bOr (bOr (bOr 1 64) 128) 2))) 2)) (F ((w + a) + 1) (bOr (bAnd (pk n v bb false i z c) (bNot (bOr (bOr (bOr 1 64) 128) 2))) (bAnd ((w + a) + 1) 128))))))
    (cond (bAnd (bAnd (bNot (bXor a w)) (bXor a ((w + a) + 0))) 128 != 0) (cond (decide ((w + a) + 0 > 255)) (cond (bAnd ((w + a) + 0) 255 == 0) (F (bAnd ((w + a) + 0) 255) (bOr (bOr (bOr (bAnd (pk n v bb false i z c) (bNot (bOr (bOr (bOr 1 64) 128) 2))) 64) 1) 2)) (F (bAnd ((w + a) + 0) 255) (bOr (bOr (bOr (bAnd (pk n v bb false i z c) (bNot (bOr (bOr (bOr 1 64) 128) 2))) 64) 1) (bAnd (bAnd ((w + a) + 0) 255) 128))))
        (cond ((w + a) + 0 == 0) (F ((w + a) + 0) (bOr (bOr (bAnd (pk n v bb false i z c) (bNot (bOr (bOr (bOr 1 64) 128) 2))) 64) 2)) (F ((w + a) + 0) (bOr (bOr (bAnd (pk n v bb false i z c) (bNot (bOr (bOr (bOr 1 64) 128) 2))) 64) (bAnd ((w + a) + 0) 128)))))
      (cond (decide ((w + a) + 0 > 255)) (cond (bAnd ((w + a) + 0) 255 == 0) (F (bAnd ((w + a) + 0) 255) (bOr (bOr (bAnd (pk n v bb false i z c) (bNot (bOr (bOr (bOr 1 64) 128) 2))) 1) 2)) (F (bAnd ((w + a) + 0) 255) (bOr (bOr (bAnd (pk n v bb false i z c) (bNot (bOr (bOr (bOr 1 64) 128) 2))) 1) (bAnd (bAnd ((w + a) + 0) 255) 128))))
        (cond ((w + a) + 0 == 0) (F ((w + a) + 0) (bOr (bAnd (pk n v bb false i z c) (bNot (bOr (bOr (bOr 1 64) 128) 2))) 2)) (F ((w + a) + 0) (bOr (bAnd (pk n v bb false i z c) (bNot (bOr (bOr (bOr 1 64) 128) 2))) (bAnd ((w + a) + 0) 128))))))) =
    F (r % 256) (pk (decide (128 ≤ r % 256)) (bAnd (bAnd (bNot (bXor a w)) (bXor a r)) 128 != 0) bb false i (decide (r % 256 = 0)) (decide (255 < r))) := by
  have hr0 : 0 ≤ w + a := by obtain ⟨_, _⟩ := o; obtain ⟨_, _⟩ := oa; lia
  rw [d_on, c_on, pk_cvnz, pk_orV]
  subst hr
  cases c
  · show cond (bAnd (bAnd (bNot (bXor a w)) (bXor a ((w + a) + 0))) 128 != 0) _ _ = F ((w + a + 0) % 256) (pk _ (bAnd (bAnd (bNot (bXor a w)) (bXor a (w + a + 0))) 128 != 0) bb _ _ _ _)
    cases bAnd (bAnd (bNot (bXor a w)) (bXor a (w + a + 0))) 128 != 0
    · exact nzc_end F (by lia)
    · exact nzc_end F (by lia)
  · show cond (bAnd (bAnd (bNot (bXor a w)) (bXor a ((w + a) + 1))) 128 != 0) _ _ = F ((w + a + 1) % 256) (pk _ (bAnd (bAnd (bNot (bXor a w)) (bXor a (w + a + 1))) 128 != 0) bb _ _ _ _)
    cases bAnd (bAnd (bNot (bXor a w)) (bXor a (w + a + 1))) 128 != 0
    · exact nzc_end F (by lia)
    · exact nzc_end F (by lia)
theorem fl_SBC {a r : Int} (F : Int → Int → γ) (D : γ) (o : Oct w) (oa : Oct a) (hr : r = a + (255 - w) + cond c 1 0) : cond (bAnd (pk n v bb false i z c) 8 != 0) D (cond (bAnd (bAnd (bXor a w) (bXor a ((a + (bAnd (bNot w) 255)) + (bAnd (pk n v bb false i z c) 1)))) 128 != 0) (cond (bAnd ((a + (bAnd (bNot w) 255)) + (bAnd (pk n v bb false i z c) 1)) 255 == 0) (cond (decide (((a + (bAnd (bNot w) 255)) + (bAnd (pk n v bb false i z c) 1)) > 255)) (F (bAnd ((a + (bAnd (bNot w) 255)) + (bAnd (pk n v bb false i z c) 1)) 255) (bOr (bOr (bOr (bOr (bAnd (pk n v bb false i z c) (bNot (bOr (bOr (bOr 1 2) 64) 128))) 64) 2) 1) (bAnd (bAnd ((a + (bAnd (bNot w) 255)) + (bAnd (pk n v bb false i z c) 1)) 255) 128))) (F (bAnd ((a + (bAnd (bNot w) 255)) + (bAnd (pk n v bb false i z c) 1)) 255) (bOr (bOr (bOr (bAnd (pk n v bb false i z c) (bNot (bOr (bOr (bOr 1 2) 64) 128))) 64) 2) (bAnd (bAnd ((a + (bAnd (bNot w) 255)) + (bAnd (pk n v bb false i z c) 1)) 255) 128)))) (cond (decide (((a + (bAnd (bNot w) 255)) + (bAnd (pk n v bb false i z c) 1)) > 255)) (F (bAnd ((a + (bAnd (bNot w) 255)) + (bAnd (pk n v bb false i z c) 1)) 255) (bOr (bOr (bOr (bAnd (pk n v bb false i z c) (bNot (bOr (bOr (bOr 1 2) 64) 128))) 64) 1) (bAnd (bAnd ((a + (bAnd (bNot w) 255)) + (bAnd (pk n v bb false i z c) 1)) 255) 128))) (F (bAnd ((a + (bAnd (bNot w) 255)) + (bAnd (pk n v bb false i z c) 1)) 255) (bOr (bOr (bAnd (pk n v bb false i z c) (bNot (bOr (bOr (bOr 1 2) 64) 128))) 64) (bAnd (bAnd ((a + (bAnd (bNot w) 255)) + (bAnd (pk n v bb false i z c) 1)) 255) 128))))) (cond (bAnd ((a + (bAnd (bNot w) 255)) + (bAnd (pk n v bb false i z c) 1)) 255 == 0) (cond (decide (((a + (bAnd (bNot w) 255)) + (bAnd (pk n v bb false i z c) 1)) > 255)) (F (bAnd ((a + (bAnd (bNot w) 255)) + (bAnd (pk n v bb false i z c) 1)) 255) (bOr (bOr (bOr (bAnd (pk n v bb false i z c) (bNot (bOr (bOr (bOr 1 2) 64) 128))) 2) 1) (bAnd (bAnd ((a + (bAnd (bNot w) 255)) + (bAnd (pk n v bb false i z c) 1)) 255) 128))) (F (bAnd ((a + (bAnd (bNot w) 255)) + (bAnd (pk n v bb false i z c) 1)) 255) (bOr (bOr (bAnd (pk n v bb false i z c) (bNot (bOr (bOr (bOr 1 2) 64) 128))) 2) (bAnd (bAnd ((a + (bAnd (bNot w) 255)) + (bAnd (pk n v bb false i z c) 1)) 255) 128)))) (cond (decide (((a + (bAnd (bNot w) 255)) + (bAnd (pk n v bb false i z c) 1)) > 255)) (F (bAnd ((a + (bAnd (bNot w) 255)) + (bAnd (pk n v bb false i z c) 1)) 255) (bOr (bOr (bAnd (pk n v bb false i z c) (bNot (bOr (bOr (bOr 1 2) 64) 128))) 1) (bAnd (bAnd ((a + (bAnd (bNot w) 255)) + (bAnd (pk n v bb false i z c) 1)) 255) 128))) (F (bAnd ((a + (bAnd (bNot w) 255)) + (bAnd (pk n v bb false i z c) 1)) 255) (bOr (bAnd (pk n v bb false i z c) (bNot (bOr (bOr (bOr 1 2) 64) 128))) (bAnd (bAnd ((a + (bAnd (bNot w) 255)) + (bAnd (pk n v bb false i z c) 1)) 255) 128)))))) =
    F (r % 256) (pk (decide (128 ≤ r % 256)) (bAnd (bAnd (bXor a w) (bXor a r)) 128 != 0) bb false i (decide (r % 256 = 0)) (decide (255 < r))) := by
  have e1 : bAnd (pk n v bb false i z c) 1 = cond c 1 0 := pk_C ..
  have e2 : bAnd (bNot w) 255 = 255 - w := oct_not o
  have hr0 : 0 ≤ r := by obtain ⟨_, _⟩ := o; obtain ⟨_, _⟩ := oa; cases c <;> simp at hr <;> lia
  have orN : ∀ V a b : Bool, bOr (pk false V bb false i a b) (bAnd (r % 256) 128) = pk (decide (128 ≤ r % 256)) V bb false i a b := fun V a b => by
    rw [oct_128 (v := r % 256) ⟨by lia, by lia⟩]
    cases decide (128 ≤ r % 256)
    · exact pk_or0 ..
    · exact pk_orN ..
  rw [d_on, pk_czvn, e1, e2, ← hr, and_255 hr0, pk_orV, pk_orZ, pk_orZ, pk_orC, pk_orC, pk_orC, pk_orC, orN, orN, orN, orN, orN, orN, orN, orN, beq_d]
  cases bAnd (bAnd (bXor a w) (bXor a r)) 128 != 0 <;> cases decide (r % 256 = 0) <;> by_cases h : r > 255
  all_goals first | rw [decide_eq_true h] | rw [decide_eq_false h]
  all_goals rfl
theorem fl_br {pc b t : Int} (F : Int → Int → γ) (o : Oct b) (ht : t = if 128 ≤ b then pc + 1 + b - 256 else pc + 1 + b) (h0 : 0 ≤ t) (h1 : t < 65536) (hp : 0 ≤ pc) (hp1 : pc + 1 < 65536) (same : (pc + 1) / 256 = t / 256) :
    cond (bAnd b 128 != 0) (cond (bAnd (pc + 1) 65280 != bAnd (((pc + 1) - (bXor b 255)) - 1) 65280) (F (bAnd (((pc + 1) - (bXor b 255)) - 1) 65535) ((0 + 1) + 1)) (F (bAnd (((pc + 1) - (bXor b 255)) - 1) 65535) (0 + 1)))
      (cond (bAnd (pc + 1) 65280 != bAnd ((pc + 1) + b) 65280) (F (bAnd ((pc + 1) + b) 65535) ((0 + 1) + 1)) (F (bAnd ((pc + 1) + b) 65535) (0 + 1))) = F t 1 := by
  have key : cond (bAnd (pc + 1) 65280 != bAnd t 65280) (F (bAnd t 65535) ((0 + 1) + 1)) (F (bAnd t 65535) (0 + 1)) = F t 1 := by
    rw [hi_of (by lia) hp1, hi_of h0 h1, same, and_65535 h0 h1, bne_self_eq_false]; rfl
  rw [neg_on o, oct_xor o]
  by_cases h : 128 ≤ b
  · rw [if_pos h] at ht
    rw [decide_eq_true h, show pc + 1 - (255 - b) - 1 = t by lia]; exact key
  · rw [if_neg h] at ht
    rw [decide_eq_false h, show pc + 1 + b = t by lia]; exact key
end
end Mine

end
section
open PySem PySem.W PyProof.Rows
set_option maxRecDepth 100000
set_option maxHeartbeats 0
namespace Mine
noncomputable abbrev pw : Program := PySem.Challenge.pw_lr0005_05
noncomputable def clsParts : List Stmt × Scope := match (List.drop 2 pw.main.body : List Stmt) with
  | Stmt.ClassDef _ _ _ b _ _ sc _ _ _ _ :: _ => (b, sc)
  | _ => ([], default)
noncomputable def bodyL : List Stmt := clsParts.1
noncomputable def cenv : Env := { scope := clsParts.2, locals := 24, globals := 3, qual := "MPU.", code := .ref 27, frame := some 28, builtins := 0, cells := [] }
noncomputable def cfg : Cfg := { nsA := 24, plA := 26, qual := "MPU.", modV := .str "py65.devices.mpu6502" 194, text := 181, file := "/claim/cut.py", instr := [372, 379, 365, 365, 365, 386, 393, 365, 400, 407, 414, 365, 365, 421, 428, 365, 435, 442, 365, 365, 365, 449, 456, 365, 463, 470, 365, 365, 365, 477, 484, 365, 491, 498, 365, 365, 505, 512, 519, 365, 526, 533, 540, 365, 547, 554, 561, 365, 568, 575, 365, 365, 365, 582, 589, 365, 596, 603, 365, 365, 365, 610, 617, 365, 624, 631, 365, 365, 365, 638, 645, 365, 652, 659, 666, 365, 673, 680, 687, 365, 694, 701, 365, 365, 365, 708, 715, 365, 722, 729, 365, 365, 365, 736, 743, 365, 750, 757, 365, 365, 365, 764, 771, 365, 778, 785, 792, 365, 799, 806, 813, 365, 820, 827, 365, 365, 365, 834, 841, 365, 848, 855, 365, 365, 365, 862, 869, 365, 365, 876, 365, 365, 883, 890, 897, 365, 904, 365, 911, 365, 918, 925, 932, 365, 939, 946, 365, 365, 953, 960, 967, 365, 974, 981, 988, 365, 365, 995, 365, 365, 1002, 1009, 1016, 365, 1023, 1030, 1037, 365, 1044, 1051, 1058, 365, 1065, 1072, 1079, 365, 1086, 1093, 365, 365, 1100, 1107, 1114, 365, 1121, 1128, 1135, 365, 1142, 1149, 1156, 365, 1163, 1170, 365, 365, 1177, 1184, 1191, 365, 1198, 1205, 1212, 365, 1219, 1226, 1233, 365, 1240, 1247, 365, 365, 365, 1254, 1261, 365, 1268, 1275, 365, 365, 365, 1282, 1289, 365, 1296, 1303, 365, 365, 1310, 1317, 1324, 365, 1331, 1338, 1345, 365, 1352, 1359, 1366, 365, 1373, 1380, 365, 365, 365, 1387, 1394, 365, 1401, 1408, 365, 365, 365, 1415, 1422, 365] }
noncomputable def S0 (w : World) (os : OsState) : SharedT := ⟨btOf 0 (boot_heap w.params).objs.toList .nil, 11, (boot_heap w.params).life, Array.mk [], boot_drawn, boot_toks, os⟩
theorem s0_abs (w : World) (os : OsState) : (S0 w os).abs = ⟨boot_heap w.params, Array.mk [], boot_drawn, boot_toks, os⟩ := by kernel_rfl
noncomputable abbrev goT (w : World) (n : Nat) (s : SharedT) (t : Thread) := topGoT treeTable pw w 11 (some (.ref 6)) n s t
noncomputable abbrev dr (w : World) {α : Type} (m : Sem α) (s : SC) := drive pw w 11 (some (.ref 6)) m s
noncomputable def R0 (w : World) (os : OsState) : Option (SharedT × Thread) := goT w 109 (S0 w os) (topStub pw)
noncomputable def stk (w : World) (os : OsState) : List Frame := match R0 w os with | some (_, t) => t.stack | none => []
noncomputable def stk1 (w : World) (os : OsState) : Frame := match stk w os with | f :: _ => f | [] => .gen 0 (fun _ => .raise .none) [] (.builtin "" {}) default
noncomputable def stk2 (w : World) (os : OsState) : List Frame := match stk w os with | _ :: r => r | [] => []
noncomputable def wallParts : Arguments × List Stmt × Scope := match (pw.main.body : List Stmt) with
  | Stmt.FunctionDef _ a b _ _ _ sc _ _ _ :: _ => (a, b, sc)
  | _ => (default, [], default)
noncomputable def ob3 (P : Params) : Obj := { cls := .type "dict", data := .dict [entOf P "__name__" 165 (.str "py65.devices.mpu6502" 194), entOf P "__doc__" 166 (.none), entOf P "__package__" 167 (.none), entOf P "__loader__" 168 (.builtin "__main__.__loader__#opaque"), entOf P "__spec__" 169 (.none), entOf P "__annotations__" 170 (.ref 6), entOf P "__builtins__" 171 (.ref 4), entOf P "__file__" 173 (.str "/claim/cut.py" 172), entOf P "__cached__" 174 (.none), entOf P "_wall" 193 (.ref 21)].toArray 10 }
noncomputable def ob11 : Obj := { cls := .type "tuple", data := .seq [].toArray 0 }
noncomputable def ob12 : Obj := { cls := .none, data := .fields [.int (1) 0, .int (0) 0, .ref 20, .int (5) 0, .int (0) 0, .ref 27].toArray }
noncomputable def ob13 : Obj := { cls := .type "code", data := .fields [.str "<module>" 182, .str "<module>" 183, .str "/claim/cut.py" 184, .int (1) 0, .int (0) 0, .int (0) 0, .int (0) 0, .int (0) 0, .ref 11, .bool false, .int (181) 0, .ref 12, .none, .none, .none, .none, .int (185) 0, .int (1) 0, .str "/claim/cut.py" 186].toArray }
noncomputable def ob14 : Obj := { cls := .type "frame", data := .plain, slots := #[some (.ref 13), some (.ref 3), some (.ref 3), none, some (.str "__main__" 164), none, some (.ref 0)] }
noncomputable def ob15 : Obj := { cls := .type "tuple", data := .seq [].toArray 0 }
noncomputable def ob16 : Obj := { cls := .none, data := .fields [].toArray }
noncomputable def ob17 : Obj := { cls := .type "tuple", data := .seq [.str "k" 190].toArray 0 }
noncomputable def ob18 : Obj := { cls := .type "tuple", data := .seq [].toArray 0 }
noncomputable def ob19 : Obj := { cls := .none, data := .func { name := "_wall", qualname := "_wall", params := wallParts.1, body := .stmts wallParts.2.1, scope := wallParts.2.2, globals := builtinsNs, closure := [], defaults := .none, kwdefaults := .none } }
noncomputable def ob20 : Obj := { cls := .type "code", data := .fields [.str "_wall" 187, .str "_wall" 188, .str "/claim/cut.py" 189, .int (1) 0, .int (1) 0, .int (0) 0, .int (0) 0, .int (3) 0, .ref 15, .bool true, .int (181) 0, .ref 16, .none, .ref 17, .ref 18, .ref 19, .int (191) 0, .int (1) 0, .str "/claim/cut.py" 192].toArray }
noncomputable def ob21 : Obj := { cls := .type "function", data := .func { name := "_wall", qualname := "_wall", params := wallParts.1, body := .stmts wallParts.2.1, scope := wallParts.2.2, globals := mainNs, closure := [], defaults := .none, kwdefaults := .none, pyModule := .str "__main__" 164, code := .ref 20, builtins := builtinsNs } }
noncomputable def ob22 : Obj := { cls := .type "tuple", data := .seq [].toArray 0 }
noncomputable def ob23 : Obj := { cls := .type "builtin_function_or_method", data := .fields [.builtin "type.__prepare__", .type "type"].toArray }
noncomputable def ob24 (P : Params) : Obj := { cls := .type "dict", data := .dict [entOf P "__module__" 203 (.str "py65.devices.mpu6502" 194), entOf P "__qualname__" 205 (.str "MPU" 204), entOf P "__firstlineno__" 207 (.int (5) 206)].toArray 3 }
noncomputable def ob25 : Obj := { cls := .type "tuple", data := .seq [].toArray 0 }
noncomputable def ob26 : Obj := { cls := .none, data := .fields [].toArray }
noncomputable def ob27 : Obj := { cls := .type "code", data := .fields [.str "MPU" 198, .str "MPU" 199, .str "/claim/cut.py" 200, .int (5) 0, .int (0) 0, .int (0) 0, .int (0) 0, .int (0) 0, .ref 25, .bool false, .int (181) 0, .ref 26, .none, .none, .none, .none, .int (201) 0, .int (5) 0, .str "/claim/cut.py" 202].toArray }
noncomputable def ob28 : Obj := { cls := .type "frame", data := .plain, slots := #[some (.ref 27), some (.ref 3), some (.ref 24), none, some (.str "py65.devices.mpu6502" 194), none, some (.ref 0)] }
noncomputable def treeB (P : Params) : BT := (((((((((((((((((((btOf 0 (boot_heap P).objs.toList .nil).set 3 (fun _ => (ob3 P))).ins 11 ob11).ins 12 ob12).ins 13 ob13).ins 14 ob14).ins 15 ob15).ins 16 ob16).ins 17 ob17).ins 18 ob18).ins 19 ob19).ins 20 ob20).ins 21 ob21).ins 22 ob22).ins 23 ob23).ins 24 (ob24 P)).ins 25 ob25).ins 26 ob26).ins 27 ob27).ins 28 ob28
noncomputable def Sb (w : World) (os : OsState) : SharedT := ⟨treeB w.params, 29, (boot_heap w.params).life, Array.mk [], boot_drawn, 208, os⟩
noncomputable def acc_0 (P : Params) : Acc := ⟨treeB P, 29, 208, [], []⟩
noncomputable def acc_30 (P : Params) : Acc := laySts P cfg 30 (bodyL.drop 0) (acc_0 P)
noncomputable def acc_60 (P : Params) : Acc := laySts P cfg 30 (bodyL.drop 30) (acc_30 P)
noncomputable def acc_90 (P : Params) : Acc := laySts P cfg 30 (bodyL.drop 60) (acc_60 P)
noncomputable def acc_120 (P : Params) : Acc := laySts P cfg 30 (bodyL.drop 90) (acc_90 P)
noncomputable def acc_150 (P : Params) : Acc := laySts P cfg 30 (bodyL.drop 120) (acc_120 P)
noncomputable def acc_180 (P : Params) : Acc := laySts P cfg 30 (bodyL.drop 150) (acc_150 P)
noncomputable def acc_210 (P : Params) : Acc := laySts P cfg 30 (bodyL.drop 180) (acc_180 P)
noncomputable def acc_214 (P : Params) : Acc := laySts P cfg 4 (bodyL.drop 210) (acc_210 P)
noncomputable def acc_215 (P : Params) : Acc := laySts P cfg 1 (bodyL.drop 214) (acc_214 P)
noncomputable def acc_216 (P : Params) : Acc := laySts P cfg 1 (bodyL.drop 215) (acc_215 P)
noncomputable def acc_217 (P : Params) : Acc := laySts P cfg 1 (bodyL.drop 216) (acc_216 P)
noncomputable def St0 (w : World) (os : OsState) : SC := accState cfg (Sb w os) (acc_0 w.params) 0
noncomputable def St30 (w : World) (os : OsState) : SC := accState cfg (Sb w os) (acc_30 w.params) 612
noncomputable def St60 (w : World) (os : OsState) : SC := accState cfg (Sb w os) (acc_60 w.params) 1576
noncomputable def St90 (w : World) (os : OsState) : SC := accState cfg (Sb w os) (acc_90 w.params) 2479
noncomputable def St120 (w : World) (os : OsState) : SC := accState cfg (Sb w os) (acc_120 w.params) 3379
noncomputable def St150 (w : World) (os : OsState) : SC := accState cfg (Sb w os) (acc_150 w.params) 4280
noncomputable def St180 (w : World) (os : OsState) : SC := accState cfg (Sb w os) (acc_180 w.params) 5180
noncomputable def St210 (w : World) (os : OsState) : SC := accState cfg (Sb w os) (acc_210 w.params) 6080
noncomputable def St214 (w : World) (os : OsState) : SC := accState cfg (Sb w os) (acc_214 w.params) 6200
noncomputable def St215 (w : World) (os : OsState) : SC := accState cfg (Sb w os) (acc_215 w.params) 6979
noncomputable def St216 (w : World) (os : OsState) : SC := accState cfg (Sb w os) (acc_216 w.params) 7246
noncomputable def St217 (w : World) (os : OsState) : SC := accState cfg (Sb w os) (acc_217 w.params) 7513
noncomputable def cur0 : Sem Fin := ((execs bodyL cenv).onRaise (leaving cenv)).bind fun f => .pure (.done f)
theorem c_head (w : World) (os : OsState) : goT w 109 (S0 w os) (topStub pw) = some ((St0 w os).s, ⟨cur0, .body bodyL cenv, ⟨5, 0, 1029, 786⟩, stk1 w os :: stk2 w os⟩) := by kernel_rfl
theorem d_0 (w : World) (os : OsState) : dr w (execs ((bodyL.drop 0).take 30) cenv) (St0 w os) = some (.next, St30 w os) := by kernel_rfl
theorem d_30 (w : World) (os : OsState) : dr w (execs ((bodyL.drop 30).take 30) cenv) (St30 w os) = some (.next, St60 w os) := by kernel_rfl
theorem d_60 (w : World) (os : OsState) : dr w (execs ((bodyL.drop 60).take 30) cenv) (St60 w os) = some (.next, St90 w os) := by kernel_rfl
theorem d_90 (w : World) (os : OsState) : dr w (execs ((bodyL.drop 90).take 30) cenv) (St90 w os) = some (.next, St120 w os) := by kernel_rfl
theorem d_120 (w : World) (os : OsState) : dr w (execs ((bodyL.drop 120).take 30) cenv) (St120 w os) = some (.next, St150 w os) := by kernel_rfl
theorem d_150 (w : World) (os : OsState) : dr w (execs ((bodyL.drop 150).take 30) cenv) (St150 w os) = some (.next, St180 w os) := by kernel_rfl
theorem d_180 (w : World) (os : OsState) : dr w (execs ((bodyL.drop 180).take 30) cenv) (St180 w os) = some (.next, St210 w os) := by kernel_rfl
theorem d_210 (w : World) (os : OsState) : dr w (execs ((bodyL.drop 210).take 4) cenv) (St210 w os) = some (.next, St214 w os) := by kernel_rfl
noncomputable def lp214 : Str × Pos × List PySem.Expr × Pos × Pos := match bodyL.drop 214 with | .Assign [.Name id p1] (.List elts p2) p3 :: _ => (id, p1, elts, p2, p3) | _ => (Str.empty, default, [], default, default)
theorem lp214_eq : (bodyL.drop 214).take 1 = [.Assign [.Name lp214.1 lp214.2.1] (.List lp214.2.2.1 lp214.2.2.2.1) lp214.2.2.2.2] := by kernel_rfl
noncomputable def nsObj (w : World) (os : OsState) : Obj := ((St214 w os).T.get 24).getD default
theorem names_ok1 (w : World) (os : OsState) : lp214.2.2.1.map (nameRow cenv (nsObj w os)) = cfg.instr.map goodRow := by kernel_rfl
theorem names_ok2 (w : World) (os : OsState) : (St214 w os).T.get cenv.locals = some (nsObj w os) := by kernel_rfl
theorem names_ok3 (w : World) (os : OsState) : alive (nsObj w os) = some (nsObj w os) := by kernel_rfl
theorem names_ok4 (w : World) (os : OsState) : ((nsObj w os).cls == .type "dict") = true := by kernel_rfl
theorem names_ok5 (w : World) (os : OsState) : Nat.blt cenv.locals (St214 w os).n = true := by kernel_rfl
theorem l_214b (w : World) (os : OsState) : drive pw w 11 (some (.ref 6)) (newList (cfg.instr.map Value.ref) >>= fun v => standAt lp214.2.1 >>= fun _ => bindName cenv lp214.1 v >>= fun _ => pure Flow.next) (((St214 w os).up 2).up (3 * 256)) = some (.next, St215 w os) := by kernel_rfl
theorem d_214 (w : World) (os : OsState) : dr w (execs ((bodyL.drop 214).take 1) cenv) (St214 w os) = some (.next, St215 w os) :=
  names_stmt lp214_eq (by kernel_rfl) (names_ok3 w os) (names_ok4 w os) (names_ok5 w os) (names_ok2 w os) (names_ok1 w os) (by kernel_rfl) (l_214b w os)
noncomputable def lp215 : Str × Pos × List PySem.Expr × Pos × Pos := match bodyL.drop 215 with | .Assign [.Name id p1] (.List elts p2) p3 :: _ => (id, p1, elts, p2, p3) | _ => (Str.empty, default, [], default, default)
theorem lp215_eq : (bodyL.drop 215).take 1 = [.Assign [.Name lp215.1 lp215.2.1] (.List lp215.2.2.1 lp215.2.2.2.1) lp215.2.2.2.2] := by kernel_rfl
theorem l_215b (w : World) (os : OsState) : drive pw w 11 (some (.ref 6)) (newList (intsAt (St215 w os).toks lp215.2.2.1) >>= fun v => standAt lp215.2.1 >>= fun _ => bindName cenv lp215.1 v >>= fun _ => pure Flow.next) { (St215 w os) with toks := (St215 w os).toks + 256, c := (St215 w os).c + 2 + 256 } = some (.next, St216 w os) := by kernel_rfl
theorem d_215 (w : World) (os : OsState) : dr w (execs ((bodyL.drop 215).take 1) cenv) (St215 w os) = some (.next, St216 w os) :=
  ints_stmt lp215_eq (by kernel_rfl) (by kernel_rfl) (l_215b w os)
noncomputable def lp216 : Str × Pos × List PySem.Expr × Pos × Pos := match bodyL.drop 216 with | .Assign [.Name id p1] (.List elts p2) p3 :: _ => (id, p1, elts, p2, p3) | _ => (Str.empty, default, [], default, default)
theorem lp216_eq : (bodyL.drop 216).take 1 = [.Assign [.Name lp216.1 lp216.2.1] (.List lp216.2.2.1 lp216.2.2.2.1) lp216.2.2.2.2] := by kernel_rfl
theorem l_216b (w : World) (os : OsState) : drive pw w 11 (some (.ref 6)) (newList (intsAt (St216 w os).toks lp216.2.2.1) >>= fun v => standAt lp216.2.1 >>= fun _ => bindName cenv lp216.1 v >>= fun _ => pure Flow.next) { (St216 w os) with toks := (St216 w os).toks + 256, c := (St216 w os).c + 2 + 256 } = some (.next, St217 w os) := by kernel_rfl
theorem d_216 (w : World) (os : OsState) : dr w (execs ((bodyL.drop 216).take 1) cenv) (St216 w os) = some (.next, St217 w os) :=
  ints_stmt lp216_eq (by kernel_rfl) (by kernel_rfl) (l_216b w os)
theorem e_217 (w : World) (os : OsState) : dr w (execs (bodyL.drop 217) cenv) (St217 w os) = some (.next, St217 w os) := by
  rw [show bodyL.drop 217 = [] by kernel_rfl]; rfl
theorem e_216 (w : World) (os : OsState) : dr w (execs (bodyL.drop 216) cenv) (St216 w os) = some (.next, St217 w os) := by
  have h := drive_execs (p := pw) (w := w) (n₀ := 11) (ann := some (.ref 6)) (env := cenv) ((bodyL.drop 216).take 1) (bodyL.drop 217) _ _ _ (d_216 w os) (e_217 w os)
  rwa [show bodyL.drop 217 = (bodyL.drop 216).drop 1 by rw [List.drop_drop], List.take_append_drop] at h
theorem e_215 (w : World) (os : OsState) : dr w (execs (bodyL.drop 215) cenv) (St215 w os) = some (.next, St217 w os) := by
  have h := drive_execs (p := pw) (w := w) (n₀ := 11) (ann := some (.ref 6)) (env := cenv) ((bodyL.drop 215).take 1) (bodyL.drop 216) _ _ _ (d_215 w os) (e_216 w os)
  rwa [show bodyL.drop 216 = (bodyL.drop 215).drop 1 by rw [List.drop_drop], List.take_append_drop] at h
theorem e_214 (w : World) (os : OsState) : dr w (execs (bodyL.drop 214) cenv) (St214 w os) = some (.next, St217 w os) := by
  have h := drive_execs (p := pw) (w := w) (n₀ := 11) (ann := some (.ref 6)) (env := cenv) ((bodyL.drop 214).take 1) (bodyL.drop 215) _ _ _ (d_214 w os) (e_215 w os)
  rwa [show bodyL.drop 215 = (bodyL.drop 214).drop 1 by rw [List.drop_drop], List.take_append_drop] at h
theorem e_210 (w : World) (os : OsState) : dr w (execs (bodyL.drop 210) cenv) (St210 w os) = some (.next, St217 w os) := by
  have h := drive_execs (p := pw) (w := w) (n₀ := 11) (ann := some (.ref 6)) (env := cenv) ((bodyL.drop 210).take 4) (bodyL.drop 214) _ _ _ (d_210 w os) (e_214 w os)
  rwa [show bodyL.drop 214 = (bodyL.drop 210).drop 4 by rw [List.drop_drop], List.take_append_drop] at h
theorem e_180 (w : World) (os : OsState) : dr w (execs (bodyL.drop 180) cenv) (St180 w os) = some (.next, St217 w os) := by
  have h := drive_execs (p := pw) (w := w) (n₀ := 11) (ann := some (.ref 6)) (env := cenv) ((bodyL.drop 180).take 30) (bodyL.drop 210) _ _ _ (d_180 w os) (e_210 w os)
  rwa [show bodyL.drop 210 = (bodyL.drop 180).drop 30 by rw [List.drop_drop], List.take_append_drop] at h
theorem e_150 (w : World) (os : OsState) : dr w (execs (bodyL.drop 150) cenv) (St150 w os) = some (.next, St217 w os) := by
  have h := drive_execs (p := pw) (w := w) (n₀ := 11) (ann := some (.ref 6)) (env := cenv) ((bodyL.drop 150).take 30) (bodyL.drop 180) _ _ _ (d_150 w os) (e_180 w os)
  rwa [show bodyL.drop 180 = (bodyL.drop 150).drop 30 by rw [List.drop_drop], List.take_append_drop] at h
theorem e_120 (w : World) (os : OsState) : dr w (execs (bodyL.drop 120) cenv) (St120 w os) = some (.next, St217 w os) := by
  have h := drive_execs (p := pw) (w := w) (n₀ := 11) (ann := some (.ref 6)) (env := cenv) ((bodyL.drop 120).take 30) (bodyL.drop 150) _ _ _ (d_120 w os) (e_150 w os)
  rwa [show bodyL.drop 150 = (bodyL.drop 120).drop 30 by rw [List.drop_drop], List.take_append_drop] at h
theorem e_90 (w : World) (os : OsState) : dr w (execs (bodyL.drop 90) cenv) (St90 w os) = some (.next, St217 w os) := by
  have h := drive_execs (p := pw) (w := w) (n₀ := 11) (ann := some (.ref 6)) (env := cenv) ((bodyL.drop 90).take 30) (bodyL.drop 120) _ _ _ (d_90 w os) (e_120 w os)
  rwa [show bodyL.drop 120 = (bodyL.drop 90).drop 30 by rw [List.drop_drop], List.take_append_drop] at h
theorem e_60 (w : World) (os : OsState) : dr w (execs (bodyL.drop 60) cenv) (St60 w os) = some (.next, St217 w os) := by
  have h := drive_execs (p := pw) (w := w) (n₀ := 11) (ann := some (.ref 6)) (env := cenv) ((bodyL.drop 60).take 30) (bodyL.drop 90) _ _ _ (d_60 w os) (e_90 w os)
  rwa [show bodyL.drop 90 = (bodyL.drop 60).drop 30 by rw [List.drop_drop], List.take_append_drop] at h
theorem e_30 (w : World) (os : OsState) : dr w (execs (bodyL.drop 30) cenv) (St30 w os) = some (.next, St217 w os) := by
  have h := drive_execs (p := pw) (w := w) (n₀ := 11) (ann := some (.ref 6)) (env := cenv) ((bodyL.drop 30).take 30) (bodyL.drop 60) _ _ _ (d_30 w os) (e_60 w os)
  rwa [show bodyL.drop 60 = (bodyL.drop 30).drop 30 by rw [List.drop_drop], List.take_append_drop] at h
theorem e_0 (w : World) (os : OsState) : dr w (execs (bodyL.drop 0) cenv) (St0 w os) = some (.next, St217 w os) := by
  have h := drive_execs (p := pw) (w := w) (n₀ := 11) (ann := some (.ref 6)) (env := cenv) ((bodyL.drop 0).take 30) (bodyL.drop 30) _ _ _ (d_0 w os) (e_30 w os)
  rwa [show bodyL.drop 30 = (bodyL.drop 0).drop 30 by rw [List.drop_drop], List.take_append_drop] at h
noncomputable def thrEnd (w : World) (os : OsState) : Thread := match goT w 1 (St217 w os).s ⟨.pure (.done .next), .body bodyL cenv, default, stk1 w os :: stk2 w os⟩ with | some (_, t) => t | none => topStub pw
theorem t_end (w : World) (os : OsState) (pos : Pos) : goT w 1 (St217 w os).s ⟨.pure (.done .next), .body bodyL cenv, pos, stk1 w os :: stk2 w os⟩ = some ((St217 w os).s, thrEnd w os) := by kernel_rfl
noncomputable def Rf (w : World) (os : OsState) : Option SharedT := topRunT treeTable pw w 11 (some (.ref 6)) 448 (St217 w os).s (thrEnd w os)
noncomputable def Ff (w : World) (os : OsState) : SharedT := match Rf w os with | some s => s | none => S0 w os
theorem rf_some (w : World) (os : OsState) : Rf w os = some (Ff w os) := by kernel_rfl
theorem top_run (w : World) (os : OsState) : ∃ M, M ≤ 16240 ∧ topRun treeTable pw w 11 (some (.ref 6)) M ⟨boot_heap w.params, Array.mk [], boot_drawn, boot_toks, os⟩ (topStub pw) = some (Ff w os).abs := by
  obtain ⟨m, hc, hm⟩ := drive_goes (tb := treeTable) (p := pw) (w := w) (n₀ := 11) (ann := some (.ref 6)) ((execs bodyL cenv).onRaise (leaving cenv)) (St0 w os) .next (St217 w os) (drive_onRaise _ _ _ _ (e_0 w os))
  have hm' : m = 7513 := by
    have : 7513 = 0 + m := hc
    omega
  subst hm'
  obtain ⟨pos', h⟩ := hm (fun f => .pure (.done f)) (.body bodyL cenv) ⟨5, 0, 1029, 786⟩ (stk1 w os) (stk2 w os)
  have r := goT_top (c_head w os) (goT_top h (goT_top (t_end w os pos') (topRun_of (rf_some w os))))
  rw [s0_abs] at r
  exact ⟨_, by decide, r⟩

end Mine

end
section
open PySem PySem.W PyProof.Rows
set_option maxRecDepth 100000
set_option maxHeartbeats 0
namespace Mine
noncomputable def md_init : MethD := { nm := "__init__", np := 3, vars := ["self", "memory", "pc"], body := (.cons (.asgF .name .txt) (.cons (.asgF .bm (.bin .sub (.bin .shl (.int 1) (.cst 11)) (.int 1))) (.cons (.asgF .am (.bin .sub (.bin .shl (.int 1) (.cst 12)) (.int 1))) (.cons (.asgF .ahm (.bin .shl (.fld .bm) (.cst 11))) (.cons (.asgF .spb (.bin .shl (.int 1) (.cst 11))) (.cons (.asgF .exc (.int 0)) (.cons (.asgF .addc (.bool false)) (.cons (.asgF .cyc (.int 0)) (.cons (.ite (.isNone 1) (.cons (.asgV 1 .stuck) .nil) .nil) (.cons (.asgF .mem (.var 1)) (.cons (.asgF .start (.var 2)) (.cons (.expr (.call0 2)) .nil)))))))))))) }
noncomputable def md_step : MethD := { nm := "step", np := 1, vars := ["self", "instructCode"], body := (.cons (.asgV 1 (.mem (.fld .pc))) (.cons (.asgF .pc (.bin .and (.bin .add (.fld .pc) (.int 1)) (.fld .am))) (.cons (.asgF .exc (.int 0)) (.cons (.asgF .addc (.tab 1 (.var 1))) (.cons (.expr (.callT (.var 1))) (.cons (.augF .pc .and (.fld .am)) (.cons (.augF .cyc .add (.bin .add (.tab 0 (.var 1)) (.fld .exc))) (.cons (.ret (.var 0)) .nil)))))))) }
noncomputable def md_reset : MethD := { nm := "reset", np := 1, vars := ["self"], body := (.cons (.asgF .pc (.fld .start)) (.cons (.ite (.isNoneF .pc) (.cons (.asgF .pc (.call1 4 (.cst 0))) .nil) .nil) (.cons (.asgF .sp (.fld .bm)) (.cons (.asgF .a (.int 0)) (.cons (.asgF .x (.int 0)) (.cons (.asgF .y (.int 0)) (.cons (.asgF .p (.bin .or (.cst 6) (.cst 5))) (.cons (.asgF .cyc (.int 0)) .nil)))))))) }
noncomputable def md_ByteAt : MethD := { nm := "ByteAt", np := 2, vars := ["self", "addr"], body := (.cons (.ret (.mem (.var 1))) .nil) }
noncomputable def md_WordAt : MethD := { nm := "WordAt", np := 2, vars := ["self", "addr"], body := (.cons (.ret (.bin .add (.call1 3 (.var 1)) (.bin .shl (.call1 3 (.bin .add (.var 1) (.int 1))) (.cst 11)))) .nil) }
noncomputable def md_ProgramCounter : MethD := { nm := "ProgramCounter", np := 1, vars := ["self"], body := (.cons (.ret (.fld .pc)) .nil) }
noncomputable def md_ImmediateByte : MethD := { nm := "ImmediateByte", np := 1, vars := ["self"], body := (.cons (.ret (.call1 3 (.fld .pc))) .nil) }
noncomputable def md_ZeroPageXAddr : MethD := { nm := "ZeroPageXAddr", np := 1, vars := ["self"], body := (.cons (.ret (.bin .and (.fld .bm) (.bin .add (.fld .x) (.call1 3 (.fld .pc))))) .nil) }
noncomputable def md_BranchRelAddr : MethD := { nm := "BranchRelAddr", np := 1, vars := ["self", "addr"], body := (.cons (.augF .exc .add (.int 1)) (.cons (.asgV 1 (.call0 6)) (.cons (.augF .pc .add (.int 1)) (.cons (.ite (.bin .and (.var 1) (.cst 3)) (.cons (.asgV 1 (.bin .sub (.bin .sub (.fld .pc) (.bin .xor (.var 1) (.fld .bm))) (.int 1))) .nil) (.cons (.asgV 1 (.bin .add (.fld .pc) (.var 1))) .nil)) (.cons (.ite (.cmp .ne (.bin .and (.fld .pc) (.fld .ahm)) (.bin .and (.var 1) (.fld .ahm))) (.cons (.augF .exc .add (.int 1)) .nil) .nil) (.cons (.asgF .pc (.bin .and (.var 1) (.fld .am))) .nil)))))) }
noncomputable def md_FlagsNZ : MethD := { nm := "FlagsNZ", np := 2, vars := ["self", "value"], body := (.cons (.augF .p .and (.inv (.bin .or (.cst 9) (.cst 3)))) (.cons (.ite (.cmp .eq (.var 1) (.int 0)) (.cons (.augF .p .or (.cst 9)) .nil) (.cons (.augF .p .or (.bin .and (.var 1) (.cst 3))) .nil)) .nil)) }
noncomputable def md_opBCL : MethD := { nm := "opBCL", np := 2, vars := ["self", "x"], body := (.cons (.ite (.bin .and (.fld .p) (.var 1)) (.cons (.augF .pc .add (.int 1)) .nil) (.cons (.expr (.call0 8)) .nil)) .nil) }
noncomputable def md_opCLR : MethD := { nm := "opCLR", np := 2, vars := ["self", "x"], body := (.cons (.augF .p .and (.inv (.var 1))) .nil) }
noncomputable def md_opSET : MethD := { nm := "opSET", np := 2, vars := ["self", "x"], body := (.cons (.augF .p .or (.var 1)) .nil) }
noncomputable def md_opADC : MethD := { nm := "opADC", np := 2, vars := ["self", "x", "data", "halfcarry", "decimalcarry", "adjust0", "adjust1", "nibble0", "nibble1", "aluresult", "result", "tmp"], body := (.cons (.asgV 2 (.call1 3 (.callV 1))) (.cons (.ite (.bin .and (.fld .p) (.cst 7)) (.cons (.asgV 3 (.int 0)) (.cons (.asgV 4 (.int 0)) (.cons (.asgV 5 (.int 0)) (.cons (.asgV 6 (.int 0)) (.cons (.asgV 7 (.bin .add (.bin .add (.bin .and (.var 2) (.int 15)) (.bin .and (.fld .a) (.int 15))) (.bin .and (.fld .p) (.cst 10)))) (.cons (.ite (.cmp .gt (.var 7) (.int 9)) (.cons (.asgV 5 (.int 6)) (.cons (.asgV 3 (.int 1)) .nil)) .nil) (.cons (.asgV 8 (.bin .add (.bin .add (.bin .and (.bin .shr (.var 2) (.int 4)) (.int 15)) (.bin .and (.bin .shr (.fld .a) (.int 4)) (.int 15))) (.var 3))) (.cons (.ite (.cmp .gt (.var 8) (.int 9)) (.cons (.asgV 6 (.int 6)) (.cons (.asgV 4 (.int 1)) .nil)) .nil) (.cons (.asgV 7 (.bin .and (.var 7) (.int 15))) (.cons (.asgV 8 (.bin .and (.var 8) (.int 15))) (.cons (.asgV 9 (.bin .add (.bin .shl (.var 8) (.int 4)) (.var 7))) (.cons (.asgV 7 (.bin .and (.bin .add (.var 7) (.var 5)) (.int 15))) (.cons (.asgV 8 (.bin .and (.bin .add (.var 8) (.var 6)) (.int 15))) (.cons (.augF .p .and (.inv (.bin .or (.bin .or (.bin .or (.cst 10) (.cst 4)) (.cst 3)) (.cst 9)))) (.cons (.ite (.cmp .eq (.var 9) (.int 0)) (.cons (.augF .p .or (.cst 9)) .nil) (.cons (.augF .p .or (.bin .and (.var 9) (.cst 3))) .nil)) (.cons (.ite (.cmp .eq (.var 4) (.int 1)) (.cons (.augF .p .or (.cst 10)) .nil) .nil) (.cons (.ite (.bin .and (.bin .and (.inv (.bin .xor (.fld .a) (.var 2))) (.bin .xor (.fld .a) (.var 9))) (.cst 3)) (.cons (.augF .p .or (.cst 4)) .nil) .nil) (.cons (.asgF .a (.bin .add (.bin .shl (.var 8) (.int 4)) (.var 7))) .nil)))))))))))))))))) (.cons (.ite (.bin .and (.fld .p) (.cst 10)) (.cons (.asgV 11 (.int 1)) .nil) (.cons (.asgV 11 (.int 0)) .nil)) (.cons (.asgV 10 (.bin .add (.bin .add (.var 2) (.fld .a)) (.var 11))) (.cons (.augF .p .and (.inv (.bin .or (.bin .or (.bin .or (.cst 10) (.cst 4)) (.cst 3)) (.cst 9)))) (.cons (.ite (.bin .and (.bin .and (.inv (.bin .xor (.fld .a) (.var 2))) (.bin .xor (.fld .a) (.var 10))) (.cst 3)) (.cons (.augF .p .or (.cst 4)) .nil) .nil) (.cons (.asgV 2 (.var 10)) (.cons (.ite (.cmp .gt (.var 2) (.fld .bm)) (.cons (.augF .p .or (.cst 10)) (.cons (.augV 2 .and (.fld .bm)) .nil)) .nil) (.cons (.ite (.cmp .eq (.var 2) (.int 0)) (.cons (.augF .p .or (.cst 9)) .nil) (.cons (.augF .p .or (.bin .and (.var 2) (.cst 3))) .nil)) (.cons (.asgF .a (.var 2)) .nil))))))))) .nil)) }
noncomputable def md_opSTA : MethD := { nm := "opSTA", np := 2, vars := ["self", "x"], body := (.cons (.asgM (.callV 1) (.fld .a)) .nil) }
noncomputable def md_opSBC : MethD := { nm := "opSBC", np := 2, vars := ["self", "x", "data", "halfcarry", "decimalcarry", "adjust0", "adjust1", "nibble0", "nibble1", "aluresult", "result"], body := (.cons (.asgV 2 (.call1 3 (.callV 1))) (.cons (.ite (.bin .and (.fld .p) (.cst 7)) (.cons (.asgV 3 (.int 1)) (.cons (.asgV 4 (.int 0)) (.cons (.asgV 5 (.int 0)) (.cons (.asgV 6 (.int 0)) (.cons (.asgV 7 (.bin .add (.bin .add (.bin .and (.fld .a) (.int 15)) (.bin .and (.inv (.var 2)) (.int 15))) (.bin .and (.fld .p) (.cst 10)))) (.cons (.ite (.cmp .le (.var 7) (.int 15)) (.cons (.asgV 3 (.int 0)) (.cons (.asgV 5 (.int 10)) .nil)) .nil) (.cons (.asgV 8 (.bin .add (.bin .add (.bin .and (.bin .shr (.fld .a) (.int 4)) (.int 15)) (.bin .and (.bin .shr (.inv (.var 2)) (.int 4)) (.int 15))) (.var 3))) (.cons (.ite (.cmp .le (.var 8) (.int 15)) (.cons (.asgV 6 (.bin .shl (.int 10) (.int 4))) .nil) .nil) (.cons (.asgV 9 (.bin .add (.bin .add (.fld .a) (.bin .and (.inv (.var 2)) (.fld .bm))) (.bin .and (.fld .p) (.cst 10)))) (.cons (.ite (.cmp .gt (.var 9) (.fld .bm)) (.cons (.asgV 4 (.int 1)) .nil) .nil) (.cons (.augV 9 .and (.fld .bm)) (.cons (.asgV 7 (.bin .and (.bin .add (.var 9) (.var 5)) (.int 15))) (.cons (.asgV 8 (.bin .and (.bin .shr (.bin .add (.var 9) (.var 6)) (.int 4)) (.int 15))) (.cons (.augF .p .and (.inv (.bin .or (.bin .or (.bin .or (.cst 10) (.cst 9)) (.cst 3)) (.cst 4)))) (.cons (.ite (.cmp .eq (.var 9) (.int 0)) (.cons (.augF .p .or (.cst 9)) .nil) (.cons (.augF .p .or (.bin .and (.var 9) (.cst 3))) .nil)) (.cons (.ite (.cmp .eq (.var 4) (.int 1)) (.cons (.augF .p .or (.cst 10)) .nil) .nil) (.cons (.ite (.bin .and (.bin .and (.bin .xor (.fld .a) (.var 2)) (.bin .xor (.fld .a) (.var 9))) (.cst 3)) (.cons (.augF .p .or (.cst 4)) .nil) .nil) (.cons (.asgF .a (.bin .add (.bin .shl (.var 8) (.int 4)) (.var 7))) .nil)))))))))))))))))) (.cons (.asgV 10 (.bin .add (.bin .add (.fld .a) (.bin .and (.inv (.var 2)) (.fld .bm))) (.bin .and (.fld .p) (.cst 10)))) (.cons (.augF .p .and (.inv (.bin .or (.bin .or (.bin .or (.cst 10) (.cst 9)) (.cst 4)) (.cst 3)))) (.cons (.ite (.bin .and (.bin .and (.bin .xor (.fld .a) (.var 2)) (.bin .xor (.fld .a) (.var 10))) (.cst 3)) (.cons (.augF .p .or (.cst 4)) .nil) .nil) (.cons (.asgV 2 (.bin .and (.var 10) (.fld .bm))) (.cons (.ite (.cmp .eq (.var 2) (.int 0)) (.cons (.augF .p .or (.cst 9)) .nil) .nil) (.cons (.ite (.cmp .gt (.var 10) (.fld .bm)) (.cons (.augF .p .or (.cst 10)) .nil) .nil) (.cons (.augF .p .or (.bin .and (.var 2) (.cst 3))) (.cons (.asgF .a (.var 2)) .nil))))))))) .nil)) }
noncomputable def md_opLDA : MethD := { nm := "opLDA", np := 2, vars := ["self", "x"], body := (.cons (.asgF .a (.call1 3 (.callV 1))) (.cons (.expr (.call1 9 (.fld .a))) .nil)) }
noncomputable def md_opLDX : MethD := { nm := "opLDX", np := 2, vars := ["self", "y"], body := (.cons (.asgF .x (.call1 3 (.callV 1))) (.cons (.expr (.call1 9 (.fld .x))) .nil)) }
noncomputable def md_inst_0x18 : MethD := { nm := "inst_0x18", np := 1, vars := ["self"], body := (.cons (.expr (.call1 11 (.cst 10))) .nil) }
noncomputable def md_inst_0x38 : MethD := { nm := "inst_0x38", np := 1, vars := ["self"], body := (.cons (.expr (.call1 12 (.cst 10))) .nil) }
noncomputable def md_inst_0x75 : MethD := { nm := "inst_0x75", np := 1, vars := ["self"], body := (.cons (.expr (.call1 13 (.mref 7))) (.cons (.augF .pc .add (.int 1)) .nil)) }
noncomputable def md_inst_0x95 : MethD := { nm := "inst_0x95", np := 1, vars := ["self"], body := (.cons (.expr (.call1 14 (.mref 7))) (.cons (.augF .pc .add (.int 1)) .nil)) }
noncomputable def md_inst_0xa2 : MethD := { nm := "inst_0xa2", np := 1, vars := ["self"], body := (.cons (.expr (.call1 17 (.mref 5))) (.cons (.augF .pc .add (.int 1)) .nil)) }
noncomputable def md_inst_0xb5 : MethD := { nm := "inst_0xb5", np := 1, vars := ["self"], body := (.cons (.expr (.call1 16 (.mref 7))) (.cons (.augF .pc .add (.int 1)) .nil)) }
noncomputable def md_inst_0xd0 : MethD := { nm := "inst_0xd0", np := 1, vars := ["self"], body := (.cons (.expr (.call1 10 (.cst 9))) .nil) }
noncomputable def md_inst_0xd8 : MethD := { nm := "inst_0xd8", np := 1, vars := ["self"], body := (.cons (.expr (.call1 11 (.cst 7))) .nil) }
noncomputable def md_inst_0xe8 : MethD := { nm := "inst_0xe8", np := 1, vars := ["self"], body := (.cons (.augF .x .add (.int 1)) (.cons (.augF .x .and (.fld .bm)) (.cons (.expr (.call1 9 (.fld .x))) .nil))) }
noncomputable def md_inst_0xea : MethD := { nm := "inst_0xea", np := 1, vars := ["self"], body := (.cons .pass .nil) }
noncomputable def md_inst_0xf5 : MethD := { nm := "inst_0xf5", np := 1, vars := ["self"], body := (.cons (.expr (.call1 15 (.mref 7))) (.cons (.augF .pc .add (.int 1)) .nil)) }
noncomputable def md_inst_0xf8 : MethD := { nm := "inst_0xf8", np := 1, vars := ["self"], body := (.cons (.expr (.call1 12 (.cst 7))) .nil) }
noncomputable def theP : List MethD := [md_init, md_step, md_reset, md_ByteAt, md_WordAt, md_ProgramCounter, md_ImmediateByte, md_ZeroPageXAddr, md_BranchRelAddr, md_FlagsNZ, md_opBCL, md_opCLR, md_opSET, md_opADC, md_opSTA, md_opSBC, md_opLDA, md_opLDX, md_inst_0x18, md_inst_0x38, md_inst_0x75, md_inst_0x95, md_inst_0xa2, md_inst_0xb5, md_inst_0xd0, md_inst_0xd8, md_inst_0xe8, md_inst_0xea, md_inst_0xf5, md_inst_0xf8]
noncomputable def theCsts : List (Str × Int) := [("RESET", 65532), ("NMI", 65530), ("IRQ", 65534), ("NEGATIVE", 128), ("OVERFLOW", 64), ("UNUSED", 32), ("BREAK", 16), ("DECIMAL", 8), ("INTERRUPT", 4), ("ZERO", 2), ("CARRY", 1), ("BYTE_WIDTH", 8), ("ADDR_WIDTH", 16)]
noncomputable def tab_cycletime : List Int := [7, 6, 0, 0, 0, 3, 5, 0, 3, 2, 2, 0, 0, 4, 6, 0, 2, 5, 0, 0, 0, 4, 6, 0, 2, 4, 0, 0, 0, 4, 7, 0, 6, 6, 0, 0, 3, 3, 5, 0, 4, 2, 2, 0, 4, 4, 6, 0, 2, 5, 0, 0, 0, 4, 6, 0, 2, 4, 0, 0, 0, 4, 7, 0, 6, 6, 0, 0, 0, 3, 5, 0, 3, 2, 2, 0, 3, 4, 6, 0, 2, 5, 0, 0, 0, 4, 6, 0, 2, 4, 0, 0, 0, 4, 7, 0, 6, 6, 0, 0, 0, 3, 5, 0, 4, 2, 2, 0, 5, 4, 6, 0, 2, 5, 0, 0, 0, 4, 6, 0, 2, 4, 0, 0, 0, 4, 7, 0, 0, 6, 0, 0, 3, 3, 3, 0, 2, 0, 2, 0, 4, 4, 4, 0, 2, 6, 0, 0, 4, 4, 4, 0, 2, 5, 2, 0, 0, 5, 0, 0, 2, 6, 2, 0, 3, 3, 3, 0, 2, 2, 2, 0, 4, 4, 4, 0, 2, 5, 0, 0, 4, 4, 4, 0, 2, 4, 2, 0, 4, 4, 4, 0, 2, 6, 0, 0, 3, 3, 5, 0, 2, 2, 2, 0, 4, 4, 3, 0, 2, 5, 0, 0, 0, 4, 6, 0, 2, 4, 0, 0, 0, 4, 7, 0, 2, 6, 0, 0, 3, 3, 5, 0, 2, 2, 2, 0, 4, 4, 6, 0, 2, 5, 0, 0, 0, 4, 6, 0, 2, 4, 0, 0, 0, 4, 7, 0]
noncomputable def tab_extracycles : List Int := [0, 0, 0, 0, 0, 0, 0, 0, 0, 0, 0, 0, 0, 0, 0, 0, 2, 1, 0, 0, 0, 0, 0, 0, 0, 1, 0, 0, 0, 1, 0, 0, 0, 0, 0, 0, 0, 0, 0, 0, 0, 0, 0, 0, 0, 0, 0, 0, 2, 1, 0, 0, 0, 0, 0, 0, 0, 1, 0, 0, 0, 1, 0, 0, 0, 0, 0, 0, 0, 0, 0, 0, 0, 0, 0, 0, 0, 0, 0, 0, 2, 1, 0, 0, 0, 0, 0, 0, 0, 1, 0, 0, 0, 1, 0, 0, 0, 0, 0, 0, 0, 0, 0, 0, 0, 0, 0, 0, 0, 0, 0, 0, 2, 1, 0, 0, 0, 0, 0, 0, 0, 1, 0, 0, 0, 1, 0, 0, 0, 0, 0, 0, 0, 0, 0, 0, 0, 0, 0, 0, 0, 0, 0, 0, 2, 0, 0, 0, 0, 0, 0, 0, 0, 0, 0, 0, 0, 0, 0, 0, 0, 0, 0, 0, 0, 0, 0, 0, 0, 0, 0, 0, 0, 0, 0, 0, 2, 1, 0, 0, 0, 0, 0, 0, 0, 1, 0, 0, 1, 1, 1, 0, 0, 0, 0, 0, 0, 0, 0, 0, 0, 0, 0, 0, 0, 0, 0, 0, 2, 1, 0, 0, 0, 0, 0, 0, 0, 1, 0, 0, 0, 1, 0, 0, 0, 0, 0, 0, 0, 0, 0, 0, 0, 0, 0, 0, 0, 0, 0, 0, 2, 1, 0, 0, 0, 0, 0, 0, 0, 1, 0, 0, 0, 1, 0, 0]
noncomputable def theTabs : List (Str × List Int) := [("cycletime", tab_cycletime), ("extracycles", tab_extracycles)]
noncomputable def theInstr : List Nat := [60, 61, 59, 59, 59, 62, 63, 59, 64, 65, 66, 59, 59, 67, 68, 59, 69, 70, 59, 59, 59, 71, 72, 59, 18, 73, 59, 59, 59, 74, 75, 59, 76, 77, 59, 59, 78, 79, 80, 59, 81, 82, 83, 59, 84, 85, 86, 59, 87, 88, 59, 59, 59, 89, 90, 59, 19, 91, 59, 59, 59, 92, 93, 59, 94, 95, 59, 59, 59, 96, 97, 59, 98, 99, 100, 59, 101, 102, 103, 59, 104, 105, 59, 59, 59, 106, 107, 59, 108, 109, 59, 59, 59, 110, 111, 59, 112, 113, 59, 59, 59, 114, 115, 59, 116, 117, 118, 59, 119, 120, 121, 59, 122, 123, 59, 59, 59, 20, 124, 59, 125, 126, 59, 59, 59, 127, 128, 59, 59, 129, 59, 59, 130, 131, 132, 59, 133, 59, 134, 59, 135, 136, 137, 59, 138, 139, 59, 59, 140, 21, 141, 59, 142, 143, 144, 59, 59, 145, 59, 59, 146, 147, 22, 59, 148, 149, 150, 59, 151, 152, 153, 59, 154, 155, 156, 59, 157, 158, 59, 59, 159, 23, 160, 59, 161, 162, 163, 59, 164, 165, 166, 59, 167, 168, 59, 59, 169, 170, 171, 59, 172, 173, 174, 59, 175, 176, 177, 59, 24, 178, 59, 59, 59, 179, 180, 59, 25, 181, 59, 59, 59, 182, 183, 59, 184, 185, 59, 59, 186, 187, 188, 59, 26, 189, 27, 59, 190, 191, 192, 59, 193, 194, 59, 59, 59, 28, 195, 59, 29, 196, 59, 59, 59, 197, 198, 59]
noncomputable def cls : Cls := { P := theP, csts := theCsts, tabs := theTabs, instrN := "instruct", instr := theInstr }
noncomputable def iInit : Nat := 0
noncomputable def i_step : Nat := 1
-- law_octets: 0 whole, 1 many, 2 ten, 3 octets, 4 place, 5 part
noncomputable def s_law_octets_0 : LS := (.newl 3 (.disp .nil))
noncomputable def s_law_octets_1 : LS := (.for (.one 4) (.rng (.var 1)) (.cons (.ite (.var 2) (.cons (.asgU [0, 5] (.divm (.var 0) (.int 100))) (.cons (.app 3 (.bin .add (.bin .mul (.bin .fdiv (.var 5) (.int 10)) (.int 16)) (.bin .mod (.var 5) (.int 10)))) .nil)) (.cons (.asgU [0, 5] (.divm (.var 0) (.int 256))) (.cons (.app 3 (.var 5)) .nil))) .nil))
noncomputable def s_law_octets_2 : LS := (.reto 3)
noncomputable def fn_law_octets : FnD := { nm := "_law_octets", np := 3, vars := ["whole", "many", "ten", "octets", "place", "part"], body := (.cons s_law_octets_0 (.cons s_law_octets_1 (.cons s_law_octets_2 .nil))) }
-- law_signed: 0 whole, 1 size
noncomputable def s_law_signed_0 : LS := (.ret (.ife (.cmp .ge (.bin .mul (.int 2) (.var 0)) (.var 1)) (.bin .sub (.var 0) (.var 1)) (.var 0)))
noncomputable def fn_law_signed : FnD := { nm := "_law_signed", np := 2, vars := ["whole", "size"], body := (.cons s_law_signed_0 .nil) }
-- law: 0 script, 1 first, 2 drawn, 3 many, 4 ten, 5 size, 6 whole, 7 memory, 8 code, 9 stops, 10 back, 11 place, 12 number, 13 value, 14 spot, 15 todo, 16 less, 17 carry, 18 exact, 19 signed, 20 left, 21 over, 22 begin, 23 plain, 24 mpu, 25 stop, 26 octets, 27 turn
noncomputable def s_law_0 : LS := (.asg 1 (.ife (.var 0) (.idx (.var 0) (.int 0)) (.int 0)))
noncomputable def s_law_1 : LS := (.asg 2 (.bin .add (.slc (.var 0) (.int 1) (.int 6)) (.disp (.cons (.var 1) .nil))))
noncomputable def s_law_2 : LS := (.asg 3 (.bin .add (.int 1) (.bin .mod (.var 1) (.int 4))))
noncomputable def s_law_3 : LS := (.asg 4 (.bin .mod (.bin .fdiv (.var 1) (.int 4)) (.int 2)))
noncomputable def s_law_4 : LS := (.asg 5 (.bin .pow (.ife (.var 4) (.int 100) (.int 256)) (.var 3)))
noncomputable def s_law_5 : LS := (.asg 6 (.bin .mod (.bin .mul (.bin .fdiv (.var 1) (.int 8)) (.int 31)) (.var 5)))
noncomputable def s_law_6 : LS := (.newl 7 (.bin .add (.bin .add (.comp (.bin .mod (.bin .add (.bin .mul (.int 9) (.var 28)) (.int 5)) (.int 256)) [] (.rng (.int 64))) (.bin .mul (.disp (.cons (.int 0) .nil)) (.int 704))) (.bin .mul (.disp (.cons (.int 234) .nil)) (.int 256))))
noncomputable def s_law_7 : LS := (.slp 7 (.int 8) (.bin .add (.int 8) (.var 3)) (.call 0 (.cons (.var 6) (.cons (.var 3) (.cons (.var 4) .nil)))))
noncomputable def s_law_8 : LS := (.asg 8 (.disp .nil))
noncomputable def s_law_9 : LS := (.newR 9)
noncomputable def s_law_10 : LS := (.asg 10 (.disp .nil))
noncomputable def s_law_11 : LS := (.forE [11, 12] (.var 2) (.cons (.asg 13 (.bin .mod (.bin .add (.bin .mul (.bin .fdiv (.var 12) (.int 4)) (.int 1000003)) (.int 77)) (.var 5))) (.cons (.asg 14 (.bin .add (.int 16) (.bin .mul (.int 4) (.var 11)))) (.cons (.slp 7 (.var 14) (.bin .add (.var 14) (.var 3)) (.call 0 (.cons (.var 13) (.cons (.var 3) (.cons (.var 4) .nil))))) (.cons (.asg 10 (.bin .add (.disp (.cons (.tup (.cons (.var 14) (.cons (.var 13) (.cons (.bin .sub (.int 1) (.bin .mod (.var 12) (.int 2))) (.cons (.bin .sub (.int 1) (.bin .mod (.bin .fdiv (.var 12) (.int 2)) (.int 2))) .nil))))) .nil)) (.var 10))) .nil)))))
noncomputable def s_law_12 : LS := (.asg 15 (.bin .add (.compT ["spot", "value", "less", "carry"] (.cons (.var 0) (.cons (.var 1) (.cons (.bin .sub (.int 1) (.var 2)) (.cons (.bin .sub (.int 1) (.var 3)) .nil)))) (.lst (.rev (.var 10)))) (.var 10)))
noncomputable def s_law_13 : LS := (.for (.many [14, 13, 16, 17]) (.lst (.var 15)) (.cons (.asg 8 (.bin .add (.var 8) (.disp (.cons (.ife (.var 4) (.int 248) (.int 216)) (.cons (.ife (.var 17) (.int 56) (.int 24)) (.cons (.int 162) (.cons (.bin .sub (.int 256) (.var 3)) .nil))))))) (.cons (.asg 8 (.bin .add (.var 8) (.disp (.cons (.int 181) (.cons (.bin .mod (.bin .add (.int 8) (.var 3)) (.int 256)) (.cons (.ife (.var 16) (.int 245) (.int 117)) (.cons (.bin .mod (.bin .add (.var 14) (.var 3)) (.int 256)) (.cons (.int 149) (.cons (.bin .mod (.bin .add (.int 8) (.var 3)) (.int 256)) (.cons (.int 232) (.cons (.int 208) (.cons (.int 247) .nil)))))))))))) (.cons (.ite (.var 16) (.cons (.asg 18 (.bin .sub (.bin .sub (.var 6) (.var 13)) (.bin .sub (.int 1) (.var 17)))) (.cons (.asg 19 (.bin .sub (.bin .sub (.call 1 (.cons (.var 6) (.cons (.var 5) .nil))) (.call 1 (.cons (.var 13) (.cons (.var 5) .nil)))) (.bin .sub (.int 1) (.var 17)))) (.cons (.asg 20 (.ife (.cmp .ge (.var 18) (.int 0)) (.int 1) (.int 0))) .nil))) (.cons (.asg 18 (.bin .add (.bin .add (.var 6) (.var 13)) (.var 17))) (.cons (.asg 19 (.bin .add (.bin .add (.call 1 (.cons (.var 6) (.cons (.var 5) .nil))) (.call 1 (.cons (.var 13) (.cons (.var 5) .nil)))) (.var 17))) (.cons (.asg 20 (.ife (.cmp .ge (.var 18) (.var 5)) (.int 1) (.int 0))) .nil)))) (.cons (.asg 21 (.ife (.cmp2 .le .lt (.neg (.var 5)) (.bin .mul (.int 2) (.var 19)) (.var 5)) (.int 0) (.int 1))) (.cons (.asg 6 (.bin .mod (.var 18) (.var 5))) (.cons (.appR 9 (.cons (.bin .add (.int 768) (.len (.var 8))) (.cons (.call 0 (.cons (.var 6) (.cons (.var 3) (.cons (.var 4) .nil)))) (.cons (.var 20) (.cons (.var 21) .nil))))) .nil)))))))
noncomputable def s_law_14 : LS := (.asg 22 (.slc (.own 7) (.int 8) (.bin .add (.int 8) (.var 3))))
noncomputable def s_law_15 : LS := (.slp 7 (.int 768) (.bin .add (.int 768) (.len (.var 8))) (.var 8))
noncomputable def s_law_16 : LS := (.newl 23 (.slc (.own 7) .none .none))
noncomputable def s_law_17 : LS := (.mk 24 7 (.int 768))
noncomputable def s_law_18 : LS := (.frz 9 (.for (.many [25, 26, 20, 21]) (.lst (.var 9)) (.cons (.for (.one 27) (.rng (.int 30)) (.cons (.ite (.cmp .eq (.attr 24 .pc) (.var 25)) (.cons .brk .nil) .nil) (.cons (.step 24 1) .nil))) (.cons (.ite (.or3 (.cmp .ne (.attr 24 .pc) (.var 25)) (.cmp .ne (.slc (.own 7) (.int 8) (.bin .add (.int 8) (.var 3))) (.var 26)) (.cmp .ne (.bin .mod (.attr 24 .p) (.int 2)) (.var 20))) (.cons (.ret (.bool false)) .nil) .nil) (.cons (.ite (.or3 (.cmp .ne (.attr 24 .a) (.idx (.var 26) (.neg (.int 1)))) (.cmp .ne (.attr 24 .x) (.int 0)) (.cmp .ne (.bin .mod (.bin .fdiv (.attr 24 .p) (.int 8)) (.int 2)) (.var 4))) (.cons (.ret (.bool false)) .nil) .nil) (.cons (.ite (.and (.not (.var 4)) (.cmp .ne (.bin .mod (.bin .fdiv (.attr 24 .p) (.int 64)) (.int 2)) (.var 21))) (.cons (.ret (.bool false)) .nil) .nil) .nil))))))
noncomputable def s_law_19 : LS := (.ret (.and (.cmp .eq (.slc (.own 7) (.int 8) (.bin .add (.int 8) (.var 3))) (.var 22)) (.cmp .eq (.own 7) (.own 23))))
noncomputable def fn_law : FnD := { nm := "law", np := 1, vars := ["script", "first", "drawn", "many", "ten", "size", "whole", "memory", "code", "stops", "back", "place", "number", "value", "spot", "todo", "less", "carry", "exact", "signed", "left", "over", "begin", "plain", "mpu", "stop", "octets", "turn"], body := (.cons s_law_0 (.cons s_law_1 (.cons s_law_2 (.cons s_law_3 (.cons s_law_4 (.cons s_law_5 (.cons s_law_6 (.cons s_law_7 (.cons s_law_8 (.cons s_law_9 (.cons s_law_10 (.cons s_law_11 (.cons s_law_12 (.cons s_law_13 (.cons s_law_14 (.cons s_law_15 (.cons s_law_16 (.cons s_law_17 (.cons s_law_18 (.cons s_law_19 .nil)))))))))))))))))))) }
noncomputable def theF : List FnD := [fn_law_octets, fn_law_signed]
noncomputable def theFuel : Nat := 100
end Mine

end
section
open PySem PySem.W PyProof.Rows
set_option maxRecDepth 100000
set_option maxHeartbeats 0
namespace Mine
noncomputable def mainEs (P : Params) : List DictEntry := [entOf P "__name__" 165 (.str "law_lr0005_05" 2249), entOf P "__doc__" 166 (.none), entOf P "__package__" 167 (.none), entOf P "__loader__" 168 (.builtin "__main__.__loader__#opaque"), entOf P "__spec__" 169 (.none), entOf P "__annotations__" 170 (.ref 6), entOf P "__builtins__" 171 (.ref 4), entOf P "__file__" 173 (.str "/claim/cut.py" 172), entOf P "__cached__" 174 (.none), entOf P "_wall" 193 (.ref 21), entOf P "MPU" 2248 (.ref 1428), entOf P "_law_octets" 2262 (.ref 1439), entOf P "_law_signed" 2270 (.ref 1446), entOf P "law" 2276 (.ref 1451)]
noncomputable def nsEs (P : Params) : List DictEntry := [entOf P "__module__" 203 (.str "py65.devices.mpu6502" 194), entOf P "__firstlineno__" 207 (.int (5) 206), entOf P "RESET" 209 (.int (65532) 208), entOf P "NMI" 211 (.int (65530) 210), entOf P "IRQ" 213 (.int (65534) 212), entOf P "NEGATIVE" 215 (.int (128) 214), entOf P "OVERFLOW" 217 (.int (64) 216), entOf P "UNUSED" 219 (.int (32) 218), entOf P "BREAK" 221 (.int (16) 220), entOf P "DECIMAL" 223 (.int (8) 222), entOf P "INTERRUPT" 225 (.int (4) 224), entOf P "ZERO" 227 (.int (2) 226), entOf P "CARRY" 229 (.int (1) 228), entOf P "BYTE_WIDTH" 231 (.int (8) 230), entOf P "BYTE_FORMAT" 233 (.str "%02x" 232), entOf P "ADDR_WIDTH" 235 (.int (16) 234), entOf P "ADDR_FORMAT" 237 (.str "%04x" 236), entOf P "__init__" 247 (.ref 36), entOf P "step" 255 (.ref 43), entOf P "reset" 262 (.ref 50), entOf P "irq" 269 (.ref 57), entOf P "nmi" 276 (.ref 64), entOf P "ByteAt" 284 (.ref 71), entOf P "WordAt" 292 (.ref 78), entOf P "WrapAt" 302 (.ref 85), entOf P "ProgramCounter" 309 (.ref 92), entOf P "ImmediateByte" 316 (.ref 99), entOf P "ZeroPageAddr" 323 (.ref 106), entOf P "ZeroPageXAddr" 330 (.ref 113), entOf P "ZeroPageYAddr" 337 (.ref 120), entOf P "IndirectXAddr" 344 (.ref 127), entOf P "IndirectYAddr" 353 (.ref 134), entOf P "AbsoluteAddr" 360 (.ref 141), entOf P "AbsoluteXAddr" 369 (.ref 148), entOf P "AbsoluteYAddr" 378 (.ref 155), entOf P "BranchRelAddr" 386 (.ref 162), entOf P "stPush" 394 (.ref 169), entOf P "stPop" 401 (.ref 176), entOf P "stPushWord" 409 (.ref 183), entOf P "stPopWord" 417 (.ref 190), entOf P "FlagsNZ" 425 (.ref 197), entOf P "opORA" 433 (.ref 204), entOf P "opASL" 443 (.ref 211), entOf P "opLSR" 453 (.ref 218), entOf P "opBCL" 461 (.ref 225), entOf P "opBST" 469 (.ref 232), entOf P "opCLR" 477 (.ref 239), entOf P "opSET" 485 (.ref 246), entOf P "opAND" 493 (.ref 253), entOf P "opBIT" 502 (.ref 260), entOf P "opROL" 512 (.ref 267), entOf P "opEOR" 520 (.ref 274), entOf P "opADC" 538 (.ref 281), entOf P "opROR" 548 (.ref 288), entOf P "opSTA" 556 (.ref 295), entOf P "opSTY" 564 (.ref 302), entOf P "opSTX" 572 (.ref 309), entOf P "opCMPR" 582 (.ref 316), entOf P "opSBC" 599 (.ref 323), entOf P "opDECR" 609 (.ref 330), entOf P "opINCR" 619 (.ref 337), entOf P "opLDA" 627 (.ref 344), entOf P "opLDY" 635 (.ref 351), entOf P "opLDX" 643 (.ref 358), entOf P "inst_not_implemented" 650 (.ref 365), entOf P "inst_0x00" 658 (.ref 372), entOf P "inst_0x01" 665 (.ref 379), entOf P "inst_0x05" 672 (.ref 386), entOf P "inst_0x06" 679 (.ref 393), entOf P "inst_0x08" 686 (.ref 400), entOf P "inst_0x09" 693 (.ref 407), entOf P "inst_0x0a" 700 (.ref 414), entOf P "inst_0x0d" 707 (.ref 421), entOf P "inst_0x0e" 714 (.ref 428), entOf P "inst_0x10" 721 (.ref 435), entOf P "inst_0x11" 728 (.ref 442), entOf P "inst_0x15" 735 (.ref 449), entOf P "inst_0x16" 742 (.ref 456), entOf P "inst_0x18" 749 (.ref 463), entOf P "inst_0x19" 756 (.ref 470), entOf P "inst_0x1d" 763 (.ref 477), entOf P "inst_0x1e" 770 (.ref 484), entOf P "inst_0x20" 777 (.ref 491), entOf P "inst_0x21" 784 (.ref 498), entOf P "inst_0x24" 791 (.ref 505), entOf P "inst_0x25" 798 (.ref 512), entOf P "inst_0x26" 805 (.ref 519), entOf P "inst_0x28" 812 (.ref 526), entOf P "inst_0x29" 819 (.ref 533), entOf P "inst_0x2a" 826 (.ref 540), entOf P "inst_0x2c" 833 (.ref 547), entOf P "inst_0x2d" 840 (.ref 554), entOf P "inst_0x2e" 847 (.ref 561), entOf P "inst_0x30" 854 (.ref 568), entOf P "inst_0x31" 861 (.ref 575), entOf P "inst_0x35" 868 (.ref 582), entOf P "inst_0x36" 875 (.ref 589), entOf P "inst_0x38" 882 (.ref 596), entOf P "inst_0x39" 889 (.ref 603), entOf P "inst_0x3d" 896 (.ref 610), entOf P "inst_0x3e" 903 (.ref 617), entOf P "inst_0x40" 910 (.ref 624), entOf P "inst_0x41" 917 (.ref 631), entOf P "inst_0x45" 924 (.ref 638), entOf P "inst_0x46" 931 (.ref 645), entOf P "inst_0x48" 938 (.ref 652), entOf P "inst_0x49" 945 (.ref 659), entOf P "inst_0x4a" 952 (.ref 666), entOf P "inst_0x4c" 959 (.ref 673), entOf P "inst_0x4d" 966 (.ref 680), entOf P "inst_0x4e" 973 (.ref 687), entOf P "inst_0x50" 980 (.ref 694), entOf P "inst_0x51" 987 (.ref 701), entOf P "inst_0x55" 994 (.ref 708), entOf P "inst_0x56" 1001 (.ref 715), entOf P "inst_0x58" 1008 (.ref 722), entOf P "inst_0x59" 1015 (.ref 729), entOf P "inst_0x5d" 1022 (.ref 736), entOf P "inst_0x5e" 1029 (.ref 743), entOf P "inst_0x60" 1036 (.ref 750), entOf P "inst_0x61" 1043 (.ref 757), entOf P "inst_0x65" 1050 (.ref 764), entOf P "inst_0x66" 1057 (.ref 771), entOf P "inst_0x68" 1064 (.ref 778), entOf P "inst_0x69" 1071 (.ref 785), entOf P "inst_0x6a" 1078 (.ref 792), entOf P "inst_0x6c" 1086 (.ref 799), entOf P "inst_0x6d" 1093 (.ref 806), entOf P "inst_0x6e" 1100 (.ref 813), entOf P "inst_0x70" 1107 (.ref 820), entOf P "inst_0x71" 1114 (.ref 827), entOf P "inst_0x75" 1121 (.ref 834), entOf P "inst_0x76" 1128 (.ref 841), entOf P "inst_0x78" 1135 (.ref 848), entOf P "inst_0x79" 1142 (.ref 855), entOf P "inst_0x7d" 1149 (.ref 862), entOf P "inst_0x7e" 1156 (.ref 869), entOf P "inst_0x81" 1163 (.ref 876), entOf P "inst_0x84" 1170 (.ref 883), entOf P "inst_0x85" 1177 (.ref 890), entOf P "inst_0x86" 1184 (.ref 897), entOf P "inst_0x88" 1191 (.ref 904), entOf P "inst_0x8a" 1198 (.ref 911), entOf P "inst_0x8c" 1205 (.ref 918), entOf P "inst_0x8d" 1212 (.ref 925), entOf P "inst_0x8e" 1219 (.ref 932), entOf P "inst_0x90" 1226 (.ref 939), entOf P "inst_0x91" 1233 (.ref 946), entOf P "inst_0x94" 1240 (.ref 953), entOf P "inst_0x95" 1247 (.ref 960), entOf P "inst_0x96" 1254 (.ref 967), entOf P "inst_0x98" 1261 (.ref 974), entOf P "inst_0x99" 1268 (.ref 981), entOf P "inst_0x9a" 1275 (.ref 988), entOf P "inst_0x9d" 1282 (.ref 995), entOf P "inst_0xa0" 1289 (.ref 1002), entOf P "inst_0xa1" 1296 (.ref 1009), entOf P "inst_0xa2" 1303 (.ref 1016), entOf P "inst_0xa4" 1310 (.ref 1023), entOf P "inst_0xa5" 1317 (.ref 1030), entOf P "inst_0xa6" 1324 (.ref 1037), entOf P "inst_0xa8" 1331 (.ref 1044), entOf P "inst_0xa9" 1338 (.ref 1051), entOf P "inst_0xaa" 1345 (.ref 1058), entOf P "inst_0xac" 1352 (.ref 1065), entOf P "inst_0xad" 1359 (.ref 1072), entOf P "inst_0xae" 1366 (.ref 1079), entOf P "inst_0xb0" 1373 (.ref 1086), entOf P "inst_0xb1" 1380 (.ref 1093), entOf P "inst_0xb4" 1387 (.ref 1100), entOf P "inst_0xb5" 1394 (.ref 1107), entOf P "inst_0xb6" 1401 (.ref 1114), entOf P "inst_0xb8" 1408 (.ref 1121), entOf P "inst_0xb9" 1415 (.ref 1128), entOf P "inst_0xba" 1422 (.ref 1135), entOf P "inst_0xbc" 1429 (.ref 1142), entOf P "inst_0xbd" 1436 (.ref 1149), entOf P "inst_0xbe" 1443 (.ref 1156), entOf P "inst_0xc0" 1450 (.ref 1163), entOf P "inst_0xc1" 1457 (.ref 1170), entOf P "inst_0xc4" 1464 (.ref 1177), entOf P "inst_0xc5" 1471 (.ref 1184), entOf P "inst_0xc6" 1478 (.ref 1191), entOf P "inst_0xc8" 1485 (.ref 1198), entOf P "inst_0xc9" 1492 (.ref 1205), entOf P "inst_0xca" 1499 (.ref 1212), entOf P "inst_0xcc" 1506 (.ref 1219), entOf P "inst_0xcd" 1513 (.ref 1226), entOf P "inst_0xce" 1520 (.ref 1233), entOf P "inst_0xd0" 1527 (.ref 1240), entOf P "inst_0xd1" 1534 (.ref 1247), entOf P "inst_0xd5" 1541 (.ref 1254), entOf P "inst_0xd6" 1548 (.ref 1261), entOf P "inst_0xd8" 1555 (.ref 1268), entOf P "inst_0xd9" 1562 (.ref 1275), entOf P "inst_0xdd" 1569 (.ref 1282), entOf P "inst_0xde" 1576 (.ref 1289), entOf P "inst_0xe0" 1583 (.ref 1296), entOf P "inst_0xe1" 1590 (.ref 1303), entOf P "inst_0xe4" 1597 (.ref 1310), entOf P "inst_0xe5" 1604 (.ref 1317), entOf P "inst_0xe6" 1611 (.ref 1324), entOf P "inst_0xe8" 1618 (.ref 1331), entOf P "inst_0xe9" 1625 (.ref 1338), entOf P "inst_0xea" 1632 (.ref 1345), entOf P "inst_0xec" 1639 (.ref 1352), entOf P "inst_0xed" 1646 (.ref 1359), entOf P "inst_0xee" 1653 (.ref 1366), entOf P "inst_0xf0" 1660 (.ref 1373), entOf P "inst_0xf1" 1667 (.ref 1380), entOf P "inst_0xf5" 1674 (.ref 1387), entOf P "inst_0xf6" 1681 (.ref 1394), entOf P "inst_0xf8" 1688 (.ref 1401), entOf P "inst_0xf9" 1695 (.ref 1408), entOf P "inst_0xfd" 1702 (.ref 1415), entOf P "inst_0xfe" 1709 (.ref 1422), entOf P "instruct" 1710 (.ref 1423), entOf P "cycletime" 1967 (.ref 1424), entOf P "extracycles" 2224 (.ref 1425), entOf P "__static_attributes__" 2241 (.ref 1426), entOf P "__dict__" 2243 (.ref 1429), entOf P "__weakref__" 2245 (.ref 1430), entOf P "__doc__" 2246 (.none)]
noncomputable def clsO : Obj := { cls := .type "type", data := .cls { name := "MPU", bases := [.type "object"], mro := [.ref 1428, .type "object"], ns := 1427, qualname := "MPU", hasDict := true, slotNames := [], subclasses := [], abstract := false, collection := none, hasDel := false }, slots := #[none, none, some (.str "MPU" 196), some (.str "MPU" 204), some (.builtin "object.__new__"), some (.bool true)] }
noncomputable def stAt (i : Nat) : Stmt := (bodyL[i]?).getD (.Pass ⟨0, 0, 0, 0⟩)
noncomputable def dfltA : Addr := 29
noncomputable def lstOf : Stmt → List PySem.Expr
  | .Assign _ (.List elts _) _ => elts
  | _ => []
noncomputable def pt_law_octets : Arguments × List Stmt × Scope := match (List.drop 4 pw.main.body : List Stmt) with
  | Stmt.FunctionDef _ a b _ _ _ sc _ _ _ :: _ => (a, b, sc)
  | _ => (default, [], default)
noncomputable def fd_law_octets : FuncData := { name := "_law_octets", qualname := "_law_octets", params := pt_law_octets.1, body := .stmts pt_law_octets.2.1, scope := pt_law_octets.2.2, globals := mainNs, closure := [], defaults := .none, kwdefaults := .none, pyModule := .str "law_lr0005_05" 2249, code := .ref 1438, builtins := builtinsNs }
noncomputable def pt_law_signed : Arguments × List Stmt × Scope := match (List.drop 5 pw.main.body : List Stmt) with
  | Stmt.FunctionDef _ a b _ _ _ sc _ _ _ :: _ => (a, b, sc)
  | _ => (default, [], default)
noncomputable def fd_law_signed : FuncData := { name := "_law_signed", qualname := "_law_signed", params := pt_law_signed.1, body := .stmts pt_law_signed.2.1, scope := pt_law_signed.2.2, globals := mainNs, closure := [], defaults := .none, kwdefaults := .none, pyModule := .str "law_lr0005_05" 2249, code := .ref 1445, builtins := builtinsNs }
noncomputable def KK (P : Params) : Frag := [(3, { cls := .type "dict", data := .dict (mainEs P).toArray 14 }), (1427, { cls := .type "dict", data := .dict (nsEs P).toArray 4 }), (1428, clsO)] ++ [(29, tupO [.none, .int 0 238])] ++ defPair cfg (stAt 15) 30 239 (.ref 29) ++ defPair cfg (stAt 16) 37 248 .none ++ defPair cfg (stAt 17) 44 256 .none ++ defPair cfg (stAt 20) 65 277 .none ++ defPair cfg (stAt 21) 72 285 .none ++ defPair cfg (stAt 23) 86 303 .none ++ defPair cfg (stAt 24) 93 310 .none ++ defPair cfg (stAt 26) 107 324 .none ++ defPair cfg (stAt 33) 156 379 .none ++ defPair cfg (stAt 38) 191 418 .none ++ defPair cfg (stAt 42) 219 454 .none ++ defPair cfg (stAt 44) 233 470 .none ++ defPair cfg (stAt 45) 240 478 .none ++ defPair cfg (stAt 50) 275 521 .none ++ defPair cfg (stAt 52) 289 549 .none ++ defPair cfg (stAt 56) 317 583 .none ++ defPair cfg (stAt 59) 338 620 .none ++ defPair cfg (stAt 61) 352 636 .none ++ defPair cfg (stAt 76) 457 743 .none ++ defPair cfg (stAt 95) 590 876 .none ++ defPair cfg (stAt 129) 828 1115 .none ++ defPair cfg (stAt 147) 954 1241 .none ++ defPair cfg (stAt 155) 1010 1297 .none ++ defPair cfg (stAt 168) 1101 1388 .none ++ defPair cfg (stAt 187) 1234 1521 .none ++ defPair cfg (stAt 191) 1262 1549 .none ++ defPair cfg (stAt 200) 1325 1612 .none ++ defPair cfg (stAt 202) 1339 1626 .none ++ defPair cfg (stAt 208) 1381 1668 .none ++ defPair cfg (stAt 210) 1395 1682 .none ++ [(1423, { cls := .type "list", data := .seq (cfg.instr.map Value.ref).toArray })] ++ [(1424, { cls := .type "list", data := .seq (intsAt 1711 (lstOf (stAt 215))).toArray })] ++ [(1425, { cls := .type "list", data := .seq (intsAt 1968 (lstOf (stAt 216))).toArray })] ++ [(1439, fnO fd_law_octets), (1438, { cls := .type "code", data := .fields [.str "_law_octets" 2251, .str "_law_octets" 2252, .str "/claim/cut.py" 2253, .int (1031) 0, .int (3) 0, .int (0) 0, .int (0) 0, .int (3) 0, .ref 1433, .bool true, .int (181) 0, .ref 1434, .none, .ref 1435, .ref 1436, .ref 1437, .int (2260) 0, .int (1031) 0, .str "/claim/cut.py" 2261].toArray })] ++ [(1446, fnO fd_law_signed), (1445, { cls := .type "code", data := .fields [.str "_law_signed" 2263, .str "_law_signed" 2264, .str "/claim/cut.py" 2265, .int (1041) 0, .int (2) 0, .int (0) 0, .int (0) 0, .int (3) 0, .ref 1440, .bool true, .int (181) 0, .ref 1441, .none, .ref 1442, .ref 1443, .ref 1444, .int (2268) 0, .int (1041) 0, .str "/claim/cut.py" 2269].toArray })]
noncomputable def clA : Addr := 1428
noncomputable def fnAddrs : List Nat := [36, 43, 50, 71, 78, 92, 99, 113, 162, 197, 225, 239, 246, 281, 295, 323, 344, 358, 463, 596, 834, 960, 1016, 1107, 1240, 1268, 1331, 1345, 1387, 1401, 57, 64, 85, 106, 120, 127, 134, 141, 148, 155, 169, 176, 183, 190, 204, 211, 218, 232, 253, 260, 267, 274, 288, 302, 309, 316, 330, 337, 351, 365, 372, 379, 386, 393, 400, 407, 414, 421, 428, 435, 442, 449, 456, 470, 477, 484, 491, 498, 505, 512, 519, 526, 533, 540, 547, 554, 561, 568, 575, 582, 589, 603, 610, 617, 624, 631, 638, 645, 652, 659, 666, 673, 680, 687, 694, 701, 708, 715, 722, 729, 736, 743, 750, 757, 764, 771, 778, 785, 792, 799, 806, 813, 820, 827, 841, 848, 855, 862, 869, 876, 883, 890, 897, 904, 911, 918, 925, 932, 939, 946, 953, 967, 974, 981, 988, 995, 1002, 1009, 1023, 1030, 1037, 1044, 1051, 1058, 1065, 1072, 1079, 1086, 1093, 1100, 1114, 1121, 1128, 1135, 1142, 1149, 1156, 1163, 1170, 1177, 1184, 1191, 1198, 1205, 1212, 1219, 1226, 1233, 1247, 1254, 1261, 1275, 1282, 1289, 1296, 1303, 1310, 1317, 1324, 1338, 1352, 1359, 1366, 1373, 1380, 1394, 1408, 1415, 1422]
noncomputable def fnA (m : Nat) : Addr := fnAddrs.getD m 0
noncomputable def tabA (k : Nat) : Addr := ([1424, 1425] : List Nat).getD k 0
noncomputable def insA : Addr := 1423
noncomputable def fA (k : Nat) : Addr := ([1439, 1446] : List Nat).getD k 0
noncomputable def lawIx : Nat := 6

theorem k_base (P : Params) : baseB (KK P) clA = true := by kernel_rfl
theorem k_cst (P : Params) : cls.csts.all (cstB (KK P) clA) = true := by kernel_rfl
theorem k_tab0 (P : Params) : tabB (KK P) clA (tabA 0) (("cycletime" : Str), tab_cycletime) = true := by kernel_rfl
theorem k_tab1 (P : Params) : tabB (KK P) clA (tabA 1) (("extracycles" : Str), tab_extracycles) = true := by kernel_rfl
theorem k_ins (P : Params) : insB (KK P) clA cls fnA insA = true := by kernel_rfl
theorem k_meths (P : Params) : methsB (KK P) clA cls fnA iInit 0 theP = true := by kernel_rfl
theorem k_makes (P : Params) : makesIn (KK P) clA = true := by kernel_rfl
theorem k_keep (P : Params) : keepIn (KK P) (.ref clA) = true := by kernel_rfl
theorem k_init (P : Params) : findIn (KK P) (.ref clA) "__init__" = some (some (.ref (fnA iInit))) := by kernel_rfl
theorem k_initT (P : Params) : typeIn (KK P) (.ref (fnA iInit)) = some (.type "function") := by kernel_rfl
noncomputable def fdOf (o : Option Obj) : FuncData := match o with
  | some ⟨_, _, .func fd, _⟩ => fd
  | _ => default
noncomputable def fdInit : FuncData := fdOf ((defPair cfg (stAt 15) 30 239 (.ref 29)).lookup (fnA iInit))
theorem k_fdI (P : Params) : (KK P).lookup (fnA iInit) = some ⟨.type "function", none, .func fdInit, #[]⟩ := by kernel_rfl
theorem k_fdA : initArgs fdInit dfltA = true := by kernel_rfl
theorem k_dfl (P : Params) : (KK P).lookup dfltA = some (tupO [.none, .int 0 238]) := by kernel_rfl
theorem k_looks (P : Params) : KLooks (KK P) clA cls fnA tabA insA := by
  refine ⟨k_base P, k_cst P, fun k q e => ?_, k_ins P⟩
  match k, e with
  | 0, e => cases e; exact k_tab0 P
  | 1, e => cases e; exact k_tab1 P
  | n + 2, e => cases e
theorem md_init_at : cls.P[iInit]? = some md_init := rfl
theorem md_init_vars : md_init.vars.take md_init.np = [("self" : Str), ("memory" : Str), ("pc" : Str)] := rfl
noncomputable def XX (w : World) (h : Heap) (mb : Str → Option Value) : LX :=
  { x := { prog := pw, w := w, c := cls, h₀ := h, K := KK w.params, C := clA, I := 0, D := 0, L := 0, fnA := fnA, tabA := tabA, insA := insA }, F := theF, im := iInit, fuel := theFuel, mg := fun n => nsFind (mainEs w.params).toArray n, mb := mb, fA := fA }
theorem meth_all (w : World) (h : Heap) (mb : Str → Option Value) (I D L : Addr) (m : Nat) (md : MethD) (e : cls.P[m]? = some md) : MethOk ((XX w h mb).at I D L) m md := by
  have hb := methsB_of (k_meths w.params) m md e
  rw [Nat.zero_add] at hb
  refine methB_of (x := (XX w h mb).at I D L) hb fun fd hf => ?_
  cases q : m != iInit with
  | true => exact .inl rfl
  | false =>
    right
    obtain rfl : m = iInit := by simpa using q
    have hf' : (KK w.params).lookup (fnA iInit) = some ⟨.type "function", none, .func fd, #[]⟩ := hf
    rw [k_fdI] at hf'
    cases hf'
    rw [md_init_at] at e
    cases e
    intro s vals X hl
    obtain ⟨a, b, c, rfl⟩ : ∃ a b c, vals = [a, b, c] := by
      match vals, hl with
      | [a, b, c], _ => exact ⟨a, b, c, rfl⟩
    rw [md_init_vars]
    exact (bind_init k_fdA (k_dfl w.params) X a b c).1
theorem k_mainKeys (P : Params) : strKeysB (mainEs P) = true := by kernel_rfl
theorem k_main (P : Params) : ∃ n, (KK P).lookup mainGlobals = some { cls := .type "dict", data := .dict (mainEs P).toArray n } := ⟨14, by kernel_rfl⟩
theorem k_mpu (P : Params) : nsFind (mainEs P).toArray "MPU" = some (.ref clA) := by kernel_rfl
theorem k_free (P : Params) : (bltT.map fun q => nsFind (mainEs P).toArray q.1) = bltT.map fun _ => none := by kernel_rfl
theorem k_blt : (bltT.map fun q => bootBuiltins q.1) = bltT.map fun q => some q.2 := by kernel_rfl
theorem k_bltN : (bltT.all fun q => q.1 != ("__name__" : Str)) = true := by kernel_rfl
theorem lok (w : World) {h : Heap} {mb : Str → Option Value} (X : (KK w.params).In h) (lim : h.NoLimit) (b : h.Ns builtinsNs mb) (hb : ∀ x : Str, x ≠ "__name__" → mb x = bootBuiltins x) : LOk (XX w h mb) := by
  refine ⟨fun I D L nD nL DL => ok_of (x := (XX w h mb).at I D L) (k_looks w.params) (fun m md e => meth_all w h mb I D L m md e) X lim nD nL DL, small_of (x := (XX w h mb).x) (k_looks w.params), ?_, b, fun n v hm => ?_, k_mpu w.params, k_keep w.params, k_makes w.params, k_init w.params, k_initT w.params, fun s fd md self m p e hf Xs => ?_⟩
  · obtain ⟨n, e⟩ := k_main w.params
    exact ns_of_obj (X _ _ e) (k_mainKeys w.params)
  · refine ⟨(List.map_inj_left.mp (k_free w.params)) (n, v) hm, ?_⟩
    have h1 := (List.map_inj_left.mp k_blt) (n, v) hm
    have h2 := List.all_eq_true.mp k_bltN (n, v) hm
    show mb n = some v
    rw [hb n (by simpa using h2)]
    exact h1
  · have hf' : (KK w.params).lookup (fnA iInit) = some ⟨.type "function", none, .func fd, #[]⟩ := hf
    rw [k_fdI] at hf'
    cases hf'
    have e' : cls.P[iInit]? = some md := e
    rw [md_init_at] at e'
    cases e'
    rw [md_init_vars]
    exact (bind_init k_fdA (k_dfl w.params) Xs self m p).2
theorem f0_B : fnB cls theF fn_law_octets fd_law_octets = true := by kernel_rfl
theorem f0_at (P : Params) : (KK P).lookup (fA 0) = some (fnO fd_law_octets) := by kernel_rfl
theorem f0_code (P : Params) : codeIn (KK P) fd_law_octets.code fd_law_octets.qualname = true := by kernel_rfl
theorem f0_mg (P : Params) : nsFind (mainEs P).toArray fn_law_octets.nm = some (.ref (fA 0)) := by kernel_rfl
theorem f0_dbg : (fn_law_octets.nm == ("__debug__" : Str)) = false := by kernel_rfl
theorem f1_B : fnB cls theF fn_law_signed fd_law_signed = true := by kernel_rfl
theorem f1_at (P : Params) : (KK P).lookup (fA 1) = some (fnO fd_law_signed) := by kernel_rfl
theorem f1_code (P : Params) : codeIn (KK P) fd_law_signed.code fd_law_signed.qualname = true := by kernel_rfl
theorem f1_mg (P : Params) : nsFind (mainEs P).toArray fn_law_signed.nm = some (.ref (fA 1)) := by kernel_rfl
theorem f1_dbg : (fn_law_signed.nm == ("__debug__" : Str)) = false := by kernel_rfl
theorem fns (w : World) {h : Heap} {mb : Str → Option Value} (X : (KK w.params).In h) (lim : h.NoLimit) : FnsOk (XX w h mb) := by
  refine ⟨fun f fd e => ?_, lim⟩
  have e : theF[f]? = some fd := e
  match f, e with
  | 0, e => cases e; exact ⟨f0_mg w.params, f0_dbg, _, _, X _ _ (f0_at w.params), rfl, fnB_of (X := XX w h mb) f0_B, codeRec_of X (f0_code w.params)⟩
  | 1, e => cases e; exact ⟨f1_mg w.params, f1_dbg, _, _, X _ _ (f1_at w.params), rfl, fnB_of (X := XX w h mb) f1_B, codeRec_of X (f1_code w.params)⟩
  | n + 2, e => cases e
end Mine

end
section
open PySem PySem.W PyProof.Rows
set_option maxRecDepth 100000
set_option maxHeartbeats 0
namespace Mine
section
open PySem.TablesWhole
theorem wSs_app {top : Scope} {cx : TablesWhole.Ctx} {sc : Scope} : ∀ l r : List Stmt, wSs holds top cx sc (l ++ r) = (wSs holds top cx sc l && wSs holds top cx sc r)
  | [], r => rfl
  | s :: l, r => by
    show (wS holds top cx sc s && wSs holds top cx sc (l ++ r)) = ((wS holds top cx sc s && wSs holds top cx sc l) && _)
    rw [wSs_app l r, Bool.and_assoc]
theorem wSs_cut {top : Scope} {cx : TablesWhole.Ctx} {sc : Scope} (k : Nat) {l : List Stmt} (h1 : wSs holds top cx sc (l.take k) = true) (h2 : wSs holds top cx sc (l.drop k) = true) : wSs holds top cx sc l = true := by
  have := wSs_app (top := top) (cx := cx) (sc := sc) (l.take k) (l.drop k)
  rw [List.take_append_drop] at this
  rw [this, h1, h2]; rfl
theorem wSs_bit {top : Scope} {cx : TablesWhole.Ctx} {sc : Scope} (i k : Nat) {l : List Stmt} (h1 : wSs holds top cx sc ((l.drop i).take k) = true) (h2 : wSs holds top cx sc (l.drop (i + k)) = true) : wSs holds top cx sc (l.drop i) = true :=
  wSs_cut k h1 (by rw [List.drop_drop]; exact h2)
noncomputable def isTwice (w : String) : Bool := w == "no name twice in a table, but a class's lawful pair"
noncomputable def hx : Alg Bool := { holds with check := fun w _ _ ok => cond (isTwice w) true ok }
theorem ef_eq {ch : List Scope} {cls : Option Scope} {gl : List Str} {parent own : Scope} : holds.enterFrom ch cls gl parent own = (noTwice own && hx.enterFrom ch cls gl parent own) := by kernel_rfl
noncomputable def nameNo (s : Str) : Nat := s.cps.toList.foldl (fun a c => a * 2097152 + c) 0
noncomputable def allApart : List Nat → Bool
  | [] => true
  | a :: l => (l.all fun b => !Nat.beq a b) && allApart l
theorem filter_one {n : Str} {k : NameKind} : ∀ l : List (Str × NameKind), allApart (l.map fun p => nameNo p.1) = true → (n, k) ∈ l → l.filter (fun p => p.1 == n) = [(n, k)]
  | [], _, h => nomatch h
  | a :: l, h, hm => by
    obtain ⟨h1, h2⟩ := Bool.and_eq_true_iff.mp (show ((l.map fun p => nameNo p.1).all (fun b => !Nat.beq (nameNo a.1) b) && allApart (l.map fun p => nameNo p.1)) = true from h)
    have h1 : ∀ p ∈ l, ¬ nameNo a.1 = nameNo p.1 := fun p hp e => by
      have := List.all_eq_true.mp h1 _ (List.mem_map_of_mem hp)
      rw [← e, Nat.beq_refl] at this; cases this
    cases hm with
    | head =>
      rw [List.filter_cons_of_pos (by exact beq_self_eq_true n), List.filter_eq_nil_iff.mpr fun p hp e => h1 p hp (by rw [beq_iff_eq.mp e])]
    | tail _ hm =>
      rw [List.filter_cons_of_neg fun e => h1 _ hm (by rw [beq_iff_eq.mp e]), filter_one l h2 hm]
theorem noTwice_of {sc : Scope} (h : allApart (sc.names.map fun p => nameNo p.1) = true) : noTwice sc = true := by
  unfold noTwice
  refine List.all_eq_true.mpr fun ⟨n, k⟩ hp => ?_
  dsimp only
  rw [show sc.names.filter (fun p => p.1 == n) = [(n, k)] from filter_one _ h hp]
noncomputable def clsHd (cx : TablesWhole.Ctx) (sc : Scope) : Stmt → Bool
  | .ClassDef _ bases keywords body decorators [] own _ bind _ pos => wEs holds cx sc none decorators && (holds.bind cx sc bind (some pos) && (hx.enterFrom cx.encl none (declSs true body) sc own && (wEs holds cx sc none bases && wKs holds cx sc none keywords)))
  | _ => false
noncomputable def clsCx (cx : TablesWhole.Ctx) : Stmt → TablesWhole.Ctx
  | .ClassDef _ _ _ body _ tparams own tscope _ _ _ => ⟨own, declSs false body, declSs true body, under tparams tscope cx.encl, none⟩
  | _ => cx
noncomputable def clsOwn : Stmt → Scope
  | .ClassDef _ _ _ _ _ _ own _ _ _ _ => own
  | _ => default
noncomputable def clsBd : Stmt → List Stmt
  | .ClassDef _ _ _ body _ _ _ _ _ _ _ => body
  | _ => []
theorem wS_cls {top : Scope} {cx : TablesWhole.Ctx} {sc : Scope} {s : Stmt} (h0 : allApart ((clsOwn s).names.map fun p => nameNo p.1) = true) (h1 : clsHd cx sc s = true) (h2 : wSs holds top (clsCx cx s) (clsOwn s) (clsBd s) = true) : wS holds top cx sc s = true := by
  replace h0 := noTwice_of h0
  cases s <;> try exact absurd h1 Bool.false_ne_true
  rename_i bases keywords body decorators tparams own tscope bind _ pos
  cases tparams with
  | cons _ _ => exact absurd h1 Bool.false_ne_true
  | nil =>
    obtain ⟨a, h1⟩ := Bool.and_eq_true_iff.mp h1
    obtain ⟨b, h1⟩ := Bool.and_eq_true_iff.mp h1
    obtain ⟨c, h1⟩ := Bool.and_eq_true_iff.mp h1
    obtain ⟨d, e⟩ := Bool.and_eq_true_iff.mp h1
    have ef : holds.enterFrom cx.encl none (declSs true body) sc own = true := ef_eq.trans (Bool.and_eq_true_iff.mpr ⟨h0, c⟩)
    show ((wEs holds cx sc none decorators && (holds.bind cx sc bind (some pos) && ((holds.enterFrom cx.encl none (declSs true body) sc own && (wEs holds cx sc none bases && (wKs holds cx sc none keywords && true))) && true))) && wSs holds top _ own body) = true
    rw [a, b, ef, d, e]
    exact h2
noncomputable def topCx (p : Program) : TablesWhole.Ctx := ⟨p.main.scope, [], wSs gather p.main.scope ⟨p.main.scope, [], [], [], none⟩ p.main.scope p.main.body, [], none⟩
noncomputable def nth (p : Program) (k : Nat) : Stmt := (p.main.body.drop k).headD (.Pass ⟨0, 0, 0, 0⟩)
theorem tables_of {p : Program} {k : Nat} (hm : p.modules = []) (hp : p.parses = []) (hh : p.harvested = []) (hk : Nat.blt k p.main.body.length = true) (h1 : noTwice p.main.scope = true) (h2 : wSs holds p.main.scope (topCx p) p.main.scope (p.main.body.take k) = true)
    (h0 : allApart ((clsOwn (nth p k)).names.map fun p => nameNo p.1) = true) (h3 : clsHd (topCx p) p.main.scope (nth p k) = true) (h4 : wSs holds p.main.scope (clsCx (topCx p) (nth p k)) (clsOwn (nth p k)) (clsBd (nth p k)) = true) (h5 : wSs holds p.main.scope (topCx p) p.main.scope (p.main.body.drop (k + 1)) = true) : p.tablesWhole = true := by
  have hk := Nat.le_of_ble_eq_true hk
  have e : p.main.body.drop k = nth p k :: p.main.body.drop (k + 1) := by
    unfold nth
    rw [List.drop_eq_getElem_cons hk]; rfl
  have h6 : wSs holds p.main.scope (topCx p) p.main.scope p.main.body = true := wSs_cut k h2 (by
    rw [e]
    show (wS holds p.main.scope (topCx p) p.main.scope (nth p k) && _) = true
    rw [wS_cls h0 h3 h4, h5]; rfl)
  have h7 : wModule holds p.main = true := by
    show (true && (noTwice p.main.scope && (wSs holds p.main.scope (topCx p) p.main.scope p.main.body && true))) = true
    rw [h1, h6]; rfl
  show (wModule holds p.main && ((p.modules.map _).foldr _ _ && ((p.parses.map _).foldr _ _ && ((p.harvested.map _).foldr _ _ && true)))) = true
  rw [h7, hm, hp, hh]; rfl
end
end Mine

end
section
open PySem PySem.W PyProof.Rows
set_option maxRecDepth 100000
set_option maxHeartbeats 0
namespace Mine
noncomputable def Q : Program := { pw with main := { pw.main with body := pw.main.body.drop 6 } }
noncomputable def loose : List PySem.Str := [PySem.Str.ofString "_wall", PySem.Str.ofString "MPU", PySem.Str.ofString "_law_octets", PySem.Str.ofString "_law_signed"]
theorem lk_size (w : World) : ((boot_heap w.params).isNs mainGlobals && (Array.mk ([] : List GenState)).size == 0, (boot_heap w.params).objs.size, (boot_heap w.params).nsMap mainGlobals "__annotations__") = (true, 11, some (.ref 6)) := by kernel_rfl
noncomputable abbrev rwN : OpenLaw := PySem.Challenge.rw_lr0005_05
noncomputable def Xt : Shared → Bool := fun s => xlAt Q [] s && recOk (RowW.records rwN.row.toRowW) s
theorem lk_all (w : World) (os : OsState) : ((staticsOk (importedModules pw.main.body) (boot_heap w.params) (Ff w os).abs.heap && namesBound pw (Ff w os).abs.heap && gensDone (Ff w os).abs && laidKept (boot_heap w.params) (Ff w os).abs.heap),
        openSeen Q loose (importedModules pw.main.body) Xt true (Ff w os).abs) = (true, openGood Q loose) := by kernel_rfl
noncomputable def paramsO : Params := { strHash := fun _ => 0, shareClass := fun _ => 0, mergeTok := id, idOf := fun _ => 0, idOfShared := fun _ _ => 0, followText := fun _ => true, idOfImm := fun _ => 0 }
noncomputable def kAs : List Addr := (KK paramsO).map (·.1)
theorem kAs_eq (P : Params) : kAs = (KK P).map (·.1) := by kernel_rfl
theorem k_tree (w : World) (os : OsState) : (KK w.params).map (fun p => (Nat.blt p.1 (Ff w os).n, ((Ff w os).tree.get p.1).map alive)) = (KK w.params).map (fun p => (true, some (some p.2))) := by kernel_rfl
noncomputable def HK : Hook := kHook KK kAs kAs_eq
theorem left : LeftO pw Q loose Xt HK.obs HK.val 16240 true :=
  left_of (H := HK) (F := Ff) (boot_open (by kernel_rfl) (by kernel_rfl) (fun s => by kernel_rfl)) lk_size top_run lk_all fun w os => seen_of kAs_eq (k_tree w os)
noncomputable def dLaw : DefRec := match (pw.main.body.drop 6 : List Stmt) with
  | .FunctionDef n a b _ _ _ sc _ _ pos :: _ => ⟨n, a, b, sc, pos⟩
  | _ => ⟨"law", default, [], default, ⟨0, 0, 0, 0⟩⟩
theorem law_B (pm cd doc kV : Value) : fnB cls theF fn_law { PySem.Calls.docDef dLaw.name dLaw.params dLaw.body dLaw.scope pm cd doc with defaults := .none, kwdefaults := kV } = true := by kernel_rfl
theorem law_def : defOf Q rwN.name = some (dLaw, []) := by kernel_rfl
theorem law_the : pw.theDef rwN.name = some (dLaw.params, dLaw.body, dLaw.scope) := by kernel_rfl
theorem law_kw : kwWritten? dLaw.params.kwonlyargs dLaw.params.kw_defaults = some [] := by kernel_rfl
theorem law_dfl : dLaw.params.defaults = [] := by kernel_rfl
theorem law_ok : (chainsOk Q && opensWell pw && (frees rwN.row.toRowW && rwN.row.within.isEmpty)) = true := by kernel_rfl
noncomputable def tCx : TablesWhole.Ctx := clsCx (topCx pw) (nth pw 2)
noncomputable def tOwn : Scope := clsOwn (nth pw 2)
noncomputable def tBd : List Stmt := clsBd (nth pw 2)
noncomputable abbrev tW (l : List Stmt) : Bool := TablesWhole.wSs TablesWhole.holds pw.main.scope tCx tOwn l
theorem tb_0 : tW ((tBd.drop 0).take 40) = true := by kernel_rfl
theorem tb_1 : tW ((tBd.drop 40).take 40) = true := by kernel_rfl
theorem tb_2 : tW ((tBd.drop 80).take 40) = true := by kernel_rfl
theorem tb_3 : tW ((tBd.drop 120).take 40) = true := by kernel_rfl
theorem tb_4 : tW ((tBd.drop 160).take 40) = true := by kernel_rfl
theorem tb_5 : tW ((tBd.drop 200).take 40) = true := by kernel_rfl
theorem tb_6 : tW (tBd.drop 240) = true := by kernel_rfl
theorem tb_all : tW tBd = true := wSs_bit 0 40 tb_0 (wSs_bit 40 40 tb_1 (wSs_bit 80 40 tb_2 (wSs_bit 120 40 tb_3 (wSs_bit 160 40 tb_4 (wSs_bit 200 40 tb_5 tb_6)))))
theorem law_tables : pw.tablesWhole = true := tables_of (k := 2) (by kernel_rfl) (by kernel_rfl) (by kernel_rfl) (by kernel_rfl) (by kernel_rfl) (by kernel_rfl) (by kernel_rfl) (by kernel_rfl) tb_all (by kernel_rfl)
theorem law_bare : pw.bare := ⟨by kernel_rfl, by kernel_rfl, by kernel_rfl, by kernel_rfl, by kernel_rfl, law_tables⟩
theorem law_can : rwN.row.toRowW.promised := ⟨[.list []], by decide +kernel, by decide +kernel⟩
theorem law_prog : rwN.prog = pw := by kernel_rfl
theorem law_Xt (s : Shared) : Xt s = (xlAt Q [] s && recOk (RowW.records rwN.row.toRowW) s) := by kernel_rfl
theorem law_run (D : ∀ ns : List Int, ns.length ≤ 63 → ∃ ρ', exLs cls iInit theFuel (callL cls iInit theFuel theF 3) fn_law.body (some (.ints ns) :: List.replicate (fn_law.vars.length - 1) none) = some (.ret (.bool true), ρ'))
    (w : World) (s : Shared) (mb : Str → Option Value) (Y : HK.says w s.heap) (lim : s.heap.NoLimit) (hb : s.heap.Ns builtinsNs mb) (hbb : ∀ x : Str, x ≠ "__name__" → mb x = bootBuiltins x) (a : Addr) (o : Obj) (pm cd doc kV : Value) (ho : s.heap.get? a = some o)
    (hd : o.data = .func { PySem.Calls.docDef dLaw.name dLaw.params dLaw.body dLaw.scope pm cd doc with defaults := .none, kwdefaults := kV }) (hcd : s.heap.CodeRec cd dLaw.name) (ns : List Int) (b : Addr) (its : Array Value) (hl : ns.length ≤ 63) (li : s.heap.IsList b its) (ia : IntsAre its.toList ns)
    (R : Result → Shared → Prop) (post : ∀ s', Kg s s' → R (.ok (.ret (.bool true))) s') : codeAny (model pw w) callerA (.call (.ref a) ⟨[.ref b], []⟩) R s := by
  have X : (KK w.params).In s.heap := kIn_of Y
  have OK := lok w X lim hb hbb
  have FO := fns w (mb := mb) X lim
  exact law_core (X := XX w s.heap mb) OK FO (fnB_of (X := XX w s.heap mb) (law_B pm cd doc kV)) rfl rfl ho hd hcd hl li ia (j := 3) (by decide) (D ns hl) post
end Mine

end
section
open PySem PySem.W PyProof.Rows
set_option maxRecDepth 100000
set_option maxHeartbeats 0
namespace Mine
noncomputable abbrev rwS : OpenLaw := PySem.Challenge.rw_lr0005_05
theorem said_1 : namesResolve pw = true := by kernel_rfl
theorem said_2 : (namesMeet pw pw.main.body fun _ n => attrL n) = true := by kernel_rfl
theorem said_3 : noRoadLSs { strict := !(importedModules pw.main.body).all cThrough.contains, foot := none, bare := (["vars", "dir", "locals"] : List Str).filter (readsOut pw pw.main.body) } pw.main.body = true := by kernel_rfl
theorem said_looks : looksOpen pw = true := by
  unfold looksOpen
  rw [said_1, said_2, said_3]
  kernel_rfl
theorem said_part : rwS.row.partSaid = true := by
  unfold OpenRow.partSaid
  rw [show looksOpen rwS.row.prog = true from said_looks]
  kernel_rfl
theorem said_row : rwS.row.wellSaid = true := by
  unfold OpenRow.wellSaid
  rw [said_part]
  kernel_rfl
theorem said_law : rwS.wellSaid = true := by
  unfold OpenLaw.wellSaid
  rw [said_row]
  kernel_rfl
end Mine

end
section
open PySem PySem.W PyProof.Rows
set_option maxRecDepth 100000
set_option maxHeartbeats 0
set_option linter.unusedSimpArgs false
set_option linter.unusedVariables false
namespace Mine
theorem and_255l0 : ∀ v : Fin 512, bAnd 255 (v.val : Int) = (v.val : Int) % 256 := by decide +kernel
theorem and_255l {v : Int} (h : 0 ≤ v) (h' : v < 512) : bAnd 255 v = v % 256 := by
  have := and_255l0 ⟨v.toNat, by lia⟩
  rwa [show ((v.toNat : Nat) : Int) = v by lia] at this
noncomputable def mm (pc a x y sp p cyc e : Int) (ad s : V) (m : List Int) : M := ⟨.int pc, .int a, .int x, .int y, .int sp, .int p, .int cyc, .int e, ad, s, .int 255, .int 65535, .int 65280, .int 256, true, true, m⟩
theorem r_0x75 {pc a x y sp p cyc : Int} {s : V} {m : List Int} {k : KM} : callK cls 11 20 [] (mm pc a x y sp p cyc 0 (.int 0) s m) k = (at? m pc).bind fun v1 => (at? m (bAnd 255 (x + v1))).bind fun v2 => cond (bAnd p 8 != 0) (cond (decide (((bAnd v2 15) + (bAnd a 15)) + (bAnd p 1) > 9)) (cond (decide (((bAnd (v2.fdiv 16) 15) + (bAnd (a.fdiv 16) 15)) + 1 > 9)) ((BOp.ev .shl (bAnd (((bAnd (v2.fdiv 16) 15) + (bAnd (a.fdiv 16) 15)) + 1) 15) 4).bind fun w3 => cond (w3 + (bAnd (((bAnd v2 15) + (bAnd a 15)) + (bAnd p 1)) 15) == 0) (cond (bAnd (bAnd (bNot (bXor a v2)) (bXor a (w3 + (bAnd (((bAnd v2 15) + (bAnd a 15)) + (bAnd p 1)) 15)))) 128 != 0) ((BOp.ev .shl (bAnd ((bAnd (((bAnd (v2.fdiv 16) 15) + (bAnd (a.fdiv 16) 15)) + 1) 15) + 6) 15) 4).bind fun w4 => k .none (mm (pc + 1) (w4 + (bAnd ((bAnd (((bAnd v2 15) + (bAnd a 15)) + (bAnd p 1)) 15) + 6) 15)) x y sp (bOr (bOr (bOr (bAnd p (bNot (bOr (bOr (bOr 1 64) 128) 2))) 2) 1) 64) cyc 0 (.int 0) s m)) ((BOp.ev .shl (bAnd ((bAnd (((bAnd (v2.fdiv 16) 15) + (bAnd (a.fdiv 16) 15)) + 1) 15) + 6) 15) 4).bind fun w5 => k .none (mm (pc + 1) (w5 + (bAnd ((bAnd (((bAnd v2 15) + (bAnd a 15)) + (bAnd p 1)) 15) + 6) 15)) x y sp (bOr (bOr (bAnd p (bNot (bOr (bOr (bOr 1 64) 128) 2))) 2) 1) cyc 0 (.int 0) s m))) (cond (bAnd (bAnd (bNot (bXor a v2)) (bXor a (w3 + (bAnd (((bAnd v2 15) + (bAnd a 15)) + (bAnd p 1)) 15)))) 128 != 0) ((BOp.ev .shl (bAnd ((bAnd (((bAnd (v2.fdiv 16) 15) + (bAnd (a.fdiv 16) 15)) + 1) 15) + 6) 15) 4).bind fun w6 => k .none (mm (pc + 1) (w6 + (bAnd ((bAnd (((bAnd v2 15) + (bAnd a 15)) + (bAnd p 1)) 15) + 6) 15)) x y sp (bOr (bOr (bOr (bAnd p (bNot (bOr (bOr (bOr 1 64) 128) 2))) (bAnd (w3 + (bAnd (((bAnd v2 15) + (bAnd a 15)) + (bAnd p 1)) 15)) 128)) 1) 64) cyc 0 (.int 0) s m)) ((BOp.ev .shl (bAnd ((bAnd (((bAnd (v2.fdiv 16) 15) + (bAnd (a.fdiv 16) 15)) + 1) 15) + 6) 15) 4).bind fun w7 => k .none (mm (pc + 1) (w7 + (bAnd ((bAnd (((bAnd v2 15) + (bAnd a 15)) + (bAnd p 1)) 15) + 6) 15)) x y sp (bOr (bOr (bAnd p (bNot (bOr (bOr (bOr 1 64) 128) 2))) (bAnd (w3 + (bAnd (((bAnd v2 15) + (bAnd a 15)) + (bAnd p 1)) 15)) 128)) 1) cyc 0 (.int 0) s m)))) ((BOp.ev .shl (bAnd (((bAnd (v2.fdiv 16) 15) + (bAnd (a.fdiv 16) 15)) + 1) 15) 4).bind fun w8 => cond (w8 + (bAnd (((bAnd v2 15) + (bAnd a 15)) + (bAnd p 1)) 15) == 0) (cond (bAnd (bAnd (bNot (bXor a v2)) (bXor a (w8 + (bAnd (((bAnd v2 15) + (bAnd a 15)) + (bAnd p 1)) 15)))) 128 != 0) ((BOp.ev .shl (bAnd ((bAnd (((bAnd (v2.fdiv 16) 15) + (bAnd (a.fdiv 16) 15)) + 1) 15) + 0) 15) 4).bind fun w9 => k .none (mm (pc + 1) (w9 + (bAnd ((bAnd (((bAnd v2 15) + (bAnd a 15)) + (bAnd p 1)) 15) + 6) 15)) x y sp (bOr (bOr (bAnd p (bNot (bOr (bOr (bOr 1 64) 128) 2))) 2) 64) cyc 0 (.int 0) s m)) ((BOp.ev .shl (bAnd ((bAnd (((bAnd (v2.fdiv 16) 15) + (bAnd (a.fdiv 16) 15)) + 1) 15) + 0) 15) 4).bind fun w10 => k .none (mm (pc + 1) (w10 + (bAnd ((bAnd (((bAnd v2 15) + (bAnd a 15)) + (bAnd p 1)) 15) + 6) 15)) x y sp (bOr (bAnd p (bNot (bOr (bOr (bOr 1 64) 128) 2))) 2) cyc 0 (.int 0) s m))) (cond (bAnd (bAnd (bNot (bXor a v2)) (bXor a (w8 + (bAnd (((bAnd v2 15) + (bAnd a 15)) + (bAnd p 1)) 15)))) 128 != 0) ((BOp.ev .shl (bAnd ((bAnd (((bAnd (v2.fdiv 16) 15) + (bAnd (a.fdiv 16) 15)) + 1) 15) + 0) 15) 4).bind fun w11 => k .none (mm (pc + 1) (w11 + (bAnd ((bAnd (((bAnd v2 15) + (bAnd a 15)) + (bAnd p 1)) 15) + 6) 15)) x y sp (bOr (bOr (bAnd p (bNot (bOr (bOr (bOr 1 64) 128) 2))) (bAnd (w8 + (bAnd (((bAnd v2 15) + (bAnd a 15)) + (bAnd p 1)) 15)) 128)) 64) cyc 0 (.int 0) s m)) ((BOp.ev .shl (bAnd ((bAnd (((bAnd (v2.fdiv 16) 15) + (bAnd (a.fdiv 16) 15)) + 1) 15) + 0) 15) 4).bind fun w12 => k .none (mm (pc + 1) (w12 + (bAnd ((bAnd (((bAnd v2 15) + (bAnd a 15)) + (bAnd p 1)) 15) + 6) 15)) x y sp (bOr (bAnd p (bNot (bOr (bOr (bOr 1 64) 128) 2))) (bAnd (w8 + (bAnd (((bAnd v2 15) + (bAnd a 15)) + (bAnd p 1)) 15)) 128)) cyc 0 (.int 0) s m))))) (cond (decide (((bAnd (v2.fdiv 16) 15) + (bAnd (a.fdiv 16) 15)) + 0 > 9)) ((BOp.ev .shl (bAnd (((bAnd (v2.fdiv 16) 15) + (bAnd (a.fdiv 16) 15)) + 0) 15) 4).bind fun w13 => cond (w13 + (bAnd (((bAnd v2 15) + (bAnd a 15)) + (bAnd p 1)) 15) == 0) (cond (bAnd (bAnd (bNot (bXor a v2)) (bXor a (w13 + (bAnd (((bAnd v2 15) + (bAnd a 15)) + (bAnd p 1)) 15)))) 128 != 0) ((BOp.ev .shl (bAnd ((bAnd (((bAnd (v2.fdiv 16) 15) + (bAnd (a.fdiv 16) 15)) + 0) 15) + 6) 15) 4).bind fun w14 => k .none (mm (pc + 1) (w14 + (bAnd ((bAnd (((bAnd v2 15) + (bAnd a 15)) + (bAnd p 1)) 15) + 0) 15)) x y sp (bOr (bOr (bOr (bAnd p (bNot (bOr (bOr (bOr 1 64) 128) 2))) 2) 1) 64) cyc 0 (.int 0) s m)) ((BOp.ev .shl (bAnd ((bAnd (((bAnd (v2.fdiv 16) 15) + (bAnd (a.fdiv 16) 15)) + 0) 15) + 6) 15) 4).bind fun w15 => k .none (mm (pc + 1) (w15 + (bAnd ((bAnd (((bAnd v2 15) + (bAnd a 15)) + (bAnd p 1)) 15) + 0) 15)) x y sp (bOr (bOr (bAnd p (bNot (bOr (bOr (bOr 1 64) 128) 2))) 2) 1) cyc 0 (.int 0) s m))) (cond (bAnd (bAnd (bNot (bXor a v2)) (bXor a (w13 + (bAnd (((bAnd v2 15) + (bAnd a 15)) + (bAnd p 1)) 15)))) 128 != 0) ((BOp.ev .shl (bAnd ((bAnd (((bAnd (v2.fdiv 16) 15) + (bAnd (a.fdiv 16) 15)) + 0) 15) + 6) 15) 4).bind fun w16 => k .none (mm (pc + 1) (w16 + (bAnd ((bAnd (((bAnd v2 15) + (bAnd a 15)) + (bAnd p 1)) 15) + 0) 15)) x y sp (bOr (bOr (bOr (bAnd p (bNot (bOr (bOr (bOr 1 64) 128) 2))) (bAnd (w13 + (bAnd (((bAnd v2 15) + (bAnd a 15)) + (bAnd p 1)) 15)) 128)) 1) 64) cyc 0 (.int 0) s m)) ((BOp.ev .shl (bAnd ((bAnd (((bAnd (v2.fdiv 16) 15) + (bAnd (a.fdiv 16) 15)) + 0) 15) + 6) 15) 4).bind fun w17 => k .none (mm (pc + 1) (w17 + (bAnd ((bAnd (((bAnd v2 15) + (bAnd a 15)) + (bAnd p 1)) 15) + 0) 15)) x y sp (bOr (bOr (bAnd p (bNot (bOr (bOr (bOr 1 64) 128) 2))) (bAnd (w13 + (bAnd (((bAnd v2 15) + (bAnd a 15)) + (bAnd p 1)) 15)) 128)) 1) cyc 0 (.int 0) s m)))) ((BOp.ev .shl (bAnd (((bAnd (v2.fdiv 16) 15) + (bAnd (a.fdiv 16) 15)) + 0) 15) 4).bind fun w18 => cond (w18 + (bAnd (((bAnd v2 15) + (bAnd a 15)) + (bAnd p 1)) 15) == 0) (cond (bAnd (bAnd (bNot (bXor a v2)) (bXor a (w18 + (bAnd (((bAnd v2 15) + (bAnd a 15)) + (bAnd p 1)) 15)))) 128 != 0) ((BOp.ev .shl (bAnd ((bAnd (((bAnd (v2.fdiv 16) 15) + (bAnd (a.fdiv 16) 15)) + 0) 15) + 0) 15) 4).bind fun w19 => k .none (mm (pc + 1) (w19 + (bAnd ((bAnd (((bAnd v2 15) + (bAnd a 15)) + (bAnd p 1)) 15) + 0) 15)) x y sp (bOr (bOr (bAnd p (bNot (bOr (bOr (bOr 1 64) 128) 2))) 2) 64) cyc 0 (.int 0) s m)) ((BOp.ev .shl (bAnd ((bAnd (((bAnd (v2.fdiv 16) 15) + (bAnd (a.fdiv 16) 15)) + 0) 15) + 0) 15) 4).bind fun w20 => k .none (mm (pc + 1) (w20 + (bAnd ((bAnd (((bAnd v2 15) + (bAnd a 15)) + (bAnd p 1)) 15) + 0) 15)) x y sp (bOr (bAnd p (bNot (bOr (bOr (bOr 1 64) 128) 2))) 2) cyc 0 (.int 0) s m))) (cond (bAnd (bAnd (bNot (bXor a v2)) (bXor a (w18 + (bAnd (((bAnd v2 15) + (bAnd a 15)) + (bAnd p 1)) 15)))) 128 != 0) ((BOp.ev .shl (bAnd ((bAnd (((bAnd (v2.fdiv 16) 15) + (bAnd (a.fdiv 16) 15)) + 0) 15) + 0) 15) 4).bind fun w21 => k .none (mm (pc + 1) (w21 + (bAnd ((bAnd (((bAnd v2 15) + (bAnd a 15)) + (bAnd p 1)) 15) + 0) 15)) x y sp (bOr (bOr (bAnd p (bNot (bOr (bOr (bOr 1 64) 128) 2))) (bAnd (w18 + (bAnd (((bAnd v2 15) + (bAnd a 15)) + (bAnd p 1)) 15)) 128)) 64) cyc 0 (.int 0) s m)) ((BOp.ev .shl (bAnd ((bAnd (((bAnd (v2.fdiv 16) 15) + (bAnd (a.fdiv 16) 15)) + 0) 15) + 0) 15) 4).bind fun w22 => k .none (mm (pc + 1) (w22 + (bAnd ((bAnd (((bAnd v2 15) + (bAnd a 15)) + (bAnd p 1)) 15) + 0) 15)) x y sp (bOr (bAnd p (bNot (bOr (bOr (bOr 1 64) 128) 2))) (bAnd (w18 + (bAnd (((bAnd v2 15) + (bAnd a 15)) + (bAnd p 1)) 15)) 128)) cyc 0 (.int 0) s m)))))) (cond (bAnd p 1 != 0) (cond (bAnd (bAnd (bNot (bXor a v2)) (bXor a ((v2 + a) + 1))) 128 != 0) (cond (decide ((v2 + a) + 1 > 255)) (cond (bAnd ((v2 + a) + 1) 255 == 0) (k .none (mm (pc + 1) (bAnd ((v2 + a) + 1) 255) x y sp (bOr (bOr (bOr (bAnd p (bNot (bOr (bOr (bOr 1 64) 128) 2))) 64) 1) 2) cyc 0 (.int 0) s m)) (k .none (mm (pc + 1) (bAnd ((v2 + a) + 1) 255) x y sp (bOr (bOr (bOr (bAnd p (bNot (bOr (bOr (bOr 1 64) 128) 2))) 64) 1) (bAnd (bAnd ((v2 + a) + 1) 255) 128)) cyc 0 (.int 0) s m))) (cond ((v2 + a) + 1 == 0) (k .none (mm (pc + 1) ((v2 + a) + 1) x y sp (bOr (bOr (bAnd p (bNot (bOr (bOr (bOr 1 64) 128) 2))) 64) 2) cyc 0 (.int 0) s m)) (k .none (mm (pc + 1) ((v2 + a) + 1) x y sp (bOr (bOr (bAnd p (bNot (bOr (bOr (bOr 1 64) 128) 2))) 64) (bAnd ((v2 + a) + 1) 128)) cyc 0 (.int 0) s m)))) (cond (decide ((v2 + a) + 1 > 255)) (cond (bAnd ((v2 + a) + 1) 255 == 0) (k .none (mm (pc + 1) (bAnd ((v2 + a) + 1) 255) x y sp (bOr (bOr (bAnd p (bNot (bOr (bOr (bOr 1 64) 128) 2))) 1) 2) cyc 0 (.int 0) s m)) (k .none (mm (pc + 1) (bAnd ((v2 + a) + 1) 255) x y sp (bOr (bOr (bAnd p (bNot (bOr (bOr (bOr 1 64) 128) 2))) 1) (bAnd (bAnd ((v2 + a) + 1) 255) 128)) cyc 0 (.int 0) s m))) (cond ((v2 + a) + 1 == 0) (k .none (mm (pc + 1) ((v2 + a) + 1) x y sp (bOr (bAnd p (bNot (bOr (bOr (bOr 1 64) 128) 2))) 2) cyc 0 (.int 0) s m)) (k .none (mm (pc + 1) ((v2 + a) + 1) x y sp (bOr (bAnd p (bNot (bOr (bOr (bOr 1 64) 128) 2))) (bAnd ((v2 + a) + 1) 128)) cyc 0 (.int 0) s m))))) (cond (bAnd (bAnd (bNot (bXor a v2)) (bXor a ((v2 + a) + 0))) 128 != 0) (cond (decide ((v2 + a) + 0 > 255)) (cond (bAnd ((v2 + a) + 0) 255 == 0) (k .none (mm (pc + 1) (bAnd ((v2 + a) + 0) 255) x y sp (bOr (bOr (bOr (bAnd p (bNot (bOr (bOr (bOr 1 64) 128) 2))) 64) 1) 2) cyc 0 (.int 0) s m)) (k .none (mm (pc + 1) (bAnd ((v2 + a) + 0) 255) x y sp (bOr (bOr (bOr (bAnd p (bNot (bOr (bOr (bOr 1 64) 128) 2))) 64) 1) (bAnd (bAnd ((v2 + a) + 0) 255) 128)) cyc 0 (.int 0) s m))) (cond ((v2 + a) + 0 == 0) (k .none (mm (pc + 1) ((v2 + a) + 0) x y sp (bOr (bOr (bAnd p (bNot (bOr (bOr (bOr 1 64) 128) 2))) 64) 2) cyc 0 (.int 0) s m)) (k .none (mm (pc + 1) ((v2 + a) + 0) x y sp (bOr (bOr (bAnd p (bNot (bOr (bOr (bOr 1 64) 128) 2))) 64) (bAnd ((v2 + a) + 0) 128)) cyc 0 (.int 0) s m)))) (cond (decide ((v2 + a) + 0 > 255)) (cond (bAnd ((v2 + a) + 0) 255 == 0) (k .none (mm (pc + 1) (bAnd ((v2 + a) + 0) 255) x y sp (bOr (bOr (bAnd p (bNot (bOr (bOr (bOr 1 64) 128) 2))) 1) 2) cyc 0 (.int 0) s m)) (k .none (mm (pc + 1) (bAnd ((v2 + a) + 0) 255) x y sp (bOr (bOr (bAnd p (bNot (bOr (bOr (bOr 1 64) 128) 2))) 1) (bAnd (bAnd ((v2 + a) + 0) 255) 128)) cyc 0 (.int 0) s m))) (cond ((v2 + a) + 0 == 0) (k .none (mm (pc + 1) ((v2 + a) + 0) x y sp (bOr (bAnd p (bNot (bOr (bOr (bOr 1 64) 128) 2))) 2) cyc 0 (.int 0) s m)) (k .none (mm (pc + 1) ((v2 + a) + 0) x y sp (bOr (bAnd p (bNot (bOr (bOr (bOr 1 64) 128) 2))) (bAnd ((v2 + a) + 0) 128)) cyc 0 (.int 0) s m)))))) := by kernel_rfl
theorem r_0xf5 {pc a x y sp p cyc : Int} {s : V} {m : List Int} {k : KM} : callK cls 11 28 [] (mm pc a x y sp p cyc 0 (.int 0) s m) k = (at? m pc).bind fun v1 => (at? m (bAnd 255 (x + v1))).bind fun v2 => cond (bAnd p 8 != 0) (cond (decide (((bAnd a 15) + (bAnd (bNot v2) 15)) + (bAnd p 1) ≤ 15)) (cond (decide (((bAnd (a.fdiv 16) 15) + (bAnd ((bNot v2).fdiv 16) 15)) + 0 ≤ 15)) (cond (decide ((a + (bAnd (bNot v2) 255)) + (bAnd p 1) > 255)) (cond (bAnd ((a + (bAnd (bNot v2) 255)) + (bAnd p 1)) 255 == 0) (cond (bAnd (bAnd (bXor a v2) (bXor a (bAnd ((a + (bAnd (bNot v2) 255)) + (bAnd p 1)) 255))) 128 != 0) ((BOp.ev .shl (bAnd (((bAnd ((a + (bAnd (bNot v2) 255)) + (bAnd p 1)) 255) + 160).fdiv 16) 15) 4).bind fun w3 => k .none (mm (pc + 1) (w3 + (bAnd ((bAnd ((a + (bAnd (bNot v2) 255)) + (bAnd p 1)) 255) + 10) 15)) x y sp (bOr (bOr (bOr (bAnd p (bNot (bOr (bOr (bOr 1 2) 128) 64))) 2) 1) 64) cyc 0 (.int 0) s m)) ((BOp.ev .shl (bAnd (((bAnd ((a + (bAnd (bNot v2) 255)) + (bAnd p 1)) 255) + 160).fdiv 16) 15) 4).bind fun w4 => k .none (mm (pc + 1) (w4 + (bAnd ((bAnd ((a + (bAnd (bNot v2) 255)) + (bAnd p 1)) 255) + 10) 15)) x y sp (bOr (bOr (bAnd p (bNot (bOr (bOr (bOr 1 2) 128) 64))) 2) 1) cyc 0 (.int 0) s m))) (cond (bAnd (bAnd (bXor a v2) (bXor a (bAnd ((a + (bAnd (bNot v2) 255)) + (bAnd p 1)) 255))) 128 != 0) ((BOp.ev .shl (bAnd (((bAnd ((a + (bAnd (bNot v2) 255)) + (bAnd p 1)) 255) + 160).fdiv 16) 15) 4).bind fun w5 => k .none (mm (pc + 1) (w5 + (bAnd ((bAnd ((a + (bAnd (bNot v2) 255)) + (bAnd p 1)) 255) + 10) 15)) x y sp (bOr (bOr (bOr (bAnd p (bNot (bOr (bOr (bOr 1 2) 128) 64))) (bAnd (bAnd ((a + (bAnd (bNot v2) 255)) + (bAnd p 1)) 255) 128)) 1) 64) cyc 0 (.int 0) s m)) ((BOp.ev .shl (bAnd (((bAnd ((a + (bAnd (bNot v2) 255)) + (bAnd p 1)) 255) + 160).fdiv 16) 15) 4).bind fun w6 => k .none (mm (pc + 1) (w6 + (bAnd ((bAnd ((a + (bAnd (bNot v2) 255)) + (bAnd p 1)) 255) + 10) 15)) x y sp (bOr (bOr (bAnd p (bNot (bOr (bOr (bOr 1 2) 128) 64))) (bAnd (bAnd ((a + (bAnd (bNot v2) 255)) + (bAnd p 1)) 255) 128)) 1) cyc 0 (.int 0) s m)))) (cond (bAnd ((a + (bAnd (bNot v2) 255)) + (bAnd p 1)) 255 == 0) (cond (bAnd (bAnd (bXor a v2) (bXor a (bAnd ((a + (bAnd (bNot v2) 255)) + (bAnd p 1)) 255))) 128 != 0) ((BOp.ev .shl (bAnd (((bAnd ((a + (bAnd (bNot v2) 255)) + (bAnd p 1)) 255) + 160).fdiv 16) 15) 4).bind fun w7 => k .none (mm (pc + 1) (w7 + (bAnd ((bAnd ((a + (bAnd (bNot v2) 255)) + (bAnd p 1)) 255) + 10) 15)) x y sp (bOr (bOr (bAnd p (bNot (bOr (bOr (bOr 1 2) 128) 64))) 2) 64) cyc 0 (.int 0) s m)) ((BOp.ev .shl (bAnd (((bAnd ((a + (bAnd (bNot v2) 255)) + (bAnd p 1)) 255) + 160).fdiv 16) 15) 4).bind fun w8 => k .none (mm (pc + 1) (w8 + (bAnd ((bAnd ((a + (bAnd (bNot v2) 255)) + (bAnd p 1)) 255) + 10) 15)) x y sp (bOr (bAnd p (bNot (bOr (bOr (bOr 1 2) 128) 64))) 2) cyc 0 (.int 0) s m))) (cond (bAnd (bAnd (bXor a v2) (bXor a (bAnd ((a + (bAnd (bNot v2) 255)) + (bAnd p 1)) 255))) 128 != 0) ((BOp.ev .shl (bAnd (((bAnd ((a + (bAnd (bNot v2) 255)) + (bAnd p 1)) 255) + 160).fdiv 16) 15) 4).bind fun w9 => k .none (mm (pc + 1) (w9 + (bAnd ((bAnd ((a + (bAnd (bNot v2) 255)) + (bAnd p 1)) 255) + 10) 15)) x y sp (bOr (bOr (bAnd p (bNot (bOr (bOr (bOr 1 2) 128) 64))) (bAnd (bAnd ((a + (bAnd (bNot v2) 255)) + (bAnd p 1)) 255) 128)) 64) cyc 0 (.int 0) s m)) ((BOp.ev .shl (bAnd (((bAnd ((a + (bAnd (bNot v2) 255)) + (bAnd p 1)) 255) + 160).fdiv 16) 15) 4).bind fun w10 => k .none (mm (pc + 1) (w10 + (bAnd ((bAnd ((a + (bAnd (bNot v2) 255)) + (bAnd p 1)) 255) + 10) 15)) x y sp (bOr (bAnd p (bNot (bOr (bOr (bOr 1 2) 128) 64))) (bAnd (bAnd ((a + (bAnd (bNot v2) 255)) + (bAnd p 1)) 255) 128)) cyc 0 (.int 0) s m))))) (cond (decide ((a + (bAnd (bNot v2) 255)) + (bAnd p 1) > 255)) (cond (bAnd ((a + (bAnd (bNot v2) 255)) + (bAnd p 1)) 255 == 0) (cond (bAnd (bAnd (bXor a v2) (bXor a (bAnd ((a + (bAnd (bNot v2) 255)) + (bAnd p 1)) 255))) 128 != 0) ((BOp.ev .shl (bAnd (((bAnd ((a + (bAnd (bNot v2) 255)) + (bAnd p 1)) 255) + 0).fdiv 16) 15) 4).bind fun w11 => k .none (mm (pc + 1) (w11 + (bAnd ((bAnd ((a + (bAnd (bNot v2) 255)) + (bAnd p 1)) 255) + 10) 15)) x y sp (bOr (bOr (bOr (bAnd p (bNot (bOr (bOr (bOr 1 2) 128) 64))) 2) 1) 64) cyc 0 (.int 0) s m)) ((BOp.ev .shl (bAnd (((bAnd ((a + (bAnd (bNot v2) 255)) + (bAnd p 1)) 255) + 0).fdiv 16) 15) 4).bind fun w12 => k .none (mm (pc + 1) (w12 + (bAnd ((bAnd ((a + (bAnd (bNot v2) 255)) + (bAnd p 1)) 255) + 10) 15)) x y sp (bOr (bOr (bAnd p (bNot (bOr (bOr (bOr 1 2) 128) 64))) 2) 1) cyc 0 (.int 0) s m))) (cond (bAnd (bAnd (bXor a v2) (bXor a (bAnd ((a + (bAnd (bNot v2) 255)) + (bAnd p 1)) 255))) 128 != 0) ((BOp.ev .shl (bAnd (((bAnd ((a + (bAnd (bNot v2) 255)) + (bAnd p 1)) 255) + 0).fdiv 16) 15) 4).bind fun w13 => k .none (mm (pc + 1) (w13 + (bAnd ((bAnd ((a + (bAnd (bNot v2) 255)) + (bAnd p 1)) 255) + 10) 15)) x y sp (bOr (bOr (bOr (bAnd p (bNot (bOr (bOr (bOr 1 2) 128) 64))) (bAnd (bAnd ((a + (bAnd (bNot v2) 255)) + (bAnd p 1)) 255) 128)) 1) 64) cyc 0 (.int 0) s m)) ((BOp.ev .shl (bAnd (((bAnd ((a + (bAnd (bNot v2) 255)) + (bAnd p 1)) 255) + 0).fdiv 16) 15) 4).bind fun w14 => k .none (mm (pc + 1) (w14 + (bAnd ((bAnd ((a + (bAnd (bNot v2) 255)) + (bAnd p 1)) 255) + 10) 15)) x y sp (bOr (bOr (bAnd p (bNot (bOr (bOr (bOr 1 2) 128) 64))) (bAnd (bAnd ((a + (bAnd (bNot v2) 255)) + (bAnd p 1)) 255) 128)) 1) cyc 0 (.int 0) s m)))) (cond (bAnd ((a + (bAnd (bNot v2) 255)) + (bAnd p 1)) 255 == 0) (cond (bAnd (bAnd (bXor a v2) (bXor a (bAnd ((a + (bAnd (bNot v2) 255)) + (bAnd p 1)) 255))) 128 != 0) ((BOp.ev .shl (bAnd (((bAnd ((a + (bAnd (bNot v2) 255)) + (bAnd p 1)) 255) + 0).fdiv 16) 15) 4).bind fun w15 => k .none (mm (pc + 1) (w15 + (bAnd ((bAnd ((a + (bAnd (bNot v2) 255)) + (bAnd p 1)) 255) + 10) 15)) x y sp (bOr (bOr (bAnd p (bNot (bOr (bOr (bOr 1 2) 128) 64))) 2) 64) cyc 0 (.int 0) s m)) ((BOp.ev .shl (bAnd (((bAnd ((a + (bAnd (bNot v2) 255)) + (bAnd p 1)) 255) + 0).fdiv 16) 15) 4).bind fun w16 => k .none (mm (pc + 1) (w16 + (bAnd ((bAnd ((a + (bAnd (bNot v2) 255)) + (bAnd p 1)) 255) + 10) 15)) x y sp (bOr (bAnd p (bNot (bOr (bOr (bOr 1 2) 128) 64))) 2) cyc 0 (.int 0) s m))) (cond (bAnd (bAnd (bXor a v2) (bXor a (bAnd ((a + (bAnd (bNot v2) 255)) + (bAnd p 1)) 255))) 128 != 0) ((BOp.ev .shl (bAnd (((bAnd ((a + (bAnd (bNot v2) 255)) + (bAnd p 1)) 255) + 0).fdiv 16) 15) 4).bind fun w17 => k .none (mm (pc + 1) (w17 + (bAnd ((bAnd ((a + (bAnd (bNot v2) 255)) + (bAnd p 1)) 255) + 10) 15)) x y sp (bOr (bOr (bAnd p (bNot (bOr (bOr (bOr 1 2) 128) 64))) (bAnd (bAnd ((a + (bAnd (bNot v2) 255)) + (bAnd p 1)) 255) 128)) 64) cyc 0 (.int 0) s m)) ((BOp.ev .shl (bAnd (((bAnd ((a + (bAnd (bNot v2) 255)) + (bAnd p 1)) 255) + 0).fdiv 16) 15) 4).bind fun w18 => k .none (mm (pc + 1) (w18 + (bAnd ((bAnd ((a + (bAnd (bNot v2) 255)) + (bAnd p 1)) 255) + 10) 15)) x y sp (bOr (bAnd p (bNot (bOr (bOr (bOr 1 2) 128) 64))) (bAnd (bAnd ((a + (bAnd (bNot v2) 255)) + (bAnd p 1)) 255) 128)) cyc 0 (.int 0) s m)))))) (cond (decide (((bAnd (a.fdiv 16) 15) + (bAnd ((bNot v2).fdiv 16) 15)) + 1 ≤ 15)) (cond (decide ((a + (bAnd (bNot v2) 255)) + (bAnd p 1) > 255)) (cond (bAnd ((a + (bAnd (bNot v2) 255)) + (bAnd p 1)) 255 == 0) (cond (bAnd (bAnd (bXor a v2) (bXor a (bAnd ((a + (bAnd (bNot v2) 255)) + (bAnd p 1)) 255))) 128 != 0) ((BOp.ev .shl (bAnd (((bAnd ((a + (bAnd (bNot v2) 255)) + (bAnd p 1)) 255) + 160).fdiv 16) 15) 4).bind fun w19 => k .none (mm (pc + 1) (w19 + (bAnd ((bAnd ((a + (bAnd (bNot v2) 255)) + (bAnd p 1)) 255) + 0) 15)) x y sp (bOr (bOr (bOr (bAnd p (bNot (bOr (bOr (bOr 1 2) 128) 64))) 2) 1) 64) cyc 0 (.int 0) s m)) ((BOp.ev .shl (bAnd (((bAnd ((a + (bAnd (bNot v2) 255)) + (bAnd p 1)) 255) + 160).fdiv 16) 15) 4).bind fun w20 => k .none (mm (pc + 1) (w20 + (bAnd ((bAnd ((a + (bAnd (bNot v2) 255)) + (bAnd p 1)) 255) + 0) 15)) x y sp (bOr (bOr (bAnd p (bNot (bOr (bOr (bOr 1 2) 128) 64))) 2) 1) cyc 0 (.int 0) s m))) (cond (bAnd (bAnd (bXor a v2) (bXor a (bAnd ((a + (bAnd (bNot v2) 255)) + (bAnd p 1)) 255))) 128 != 0) ((BOp.ev .shl (bAnd (((bAnd ((a + (bAnd (bNot v2) 255)) + (bAnd p 1)) 255) + 160).fdiv 16) 15) 4).bind fun w21 => k .none (mm (pc + 1) (w21 + (bAnd ((bAnd ((a + (bAnd (bNot v2) 255)) + (bAnd p 1)) 255) + 0) 15)) x y sp (bOr (bOr (bOr (bAnd p (bNot (bOr (bOr (bOr 1 2) 128) 64))) (bAnd (bAnd ((a + (bAnd (bNot v2) 255)) + (bAnd p 1)) 255) 128)) 1) 64) cyc 0 (.int 0) s m)) ((BOp.ev .shl (bAnd (((bAnd ((a + (bAnd (bNot v2) 255)) + (bAnd p 1)) 255) + 160).fdiv 16) 15) 4).bind fun w22 => k .none (mm (pc + 1) (w22 + (bAnd ((bAnd ((a + (bAnd (bNot v2) 255)) + (bAnd p 1)) 255) + 0) 15)) x y sp (bOr (bOr (bAnd p (bNot (bOr (bOr (bOr 1 2) 128) 64))) (bAnd (bAnd ((a + (bAnd (bNot v2) 255)) + (bAnd p 1)) 255) 128)) 1) cyc 0 (.int 0) s m)))) (cond (bAnd ((a + (bAnd (bNot v2) 255)) + (bAnd p 1)) 255 == 0) (cond (bAnd (bAnd (bXor a v2) (bXor a (bAnd ((a + (bAnd (bNot v2) 255)) + (bAnd p 1)) 255))) 128 != 0) ((BOp.ev .shl (bAnd (((bAnd ((a + (bAnd (bNot v2) 255)) + (bAnd p 1)) 255) + 160).fdiv 16) 15) 4).bind fun w23 => k .none (mm (pc + 1) (w23 + (bAnd ((bAnd ((a + (bAnd (bNot v2) 255)) + (bAnd p 1)) 255) + 0) 15)) x y sp (bOr (bOr (bAnd p (bNot (bOr (bOr (bOr 1 2) 128) 64))) 2) 64) cyc 0 (.int 0) s m)) ((BOp.ev .shl (bAnd (((bAnd ((a + (bAnd (bNot v2) 255)) + (bAnd p 1)) 255) + 160).fdiv 16) 15) 4).bind fun w24 => k .none (mm (pc + 1) (w24 + (bAnd ((bAnd ((a + (bAnd (bNot v2) 255)) + (bAnd p 1)) 255) + 0) 15)) x y sp (bOr (bAnd p (bNot (bOr (bOr (bOr 1 2) 128) 64))) 2) cyc 0 (.int 0) s m))) (cond (bAnd (bAnd (bXor a v2) (bXor a (bAnd ((a + (bAnd (bNot v2) 255)) + (bAnd p 1)) 255))) 128 != 0) ((BOp.ev .shl (bAnd (((bAnd ((a + (bAnd (bNot v2) 255)) + (bAnd p 1)) 255) + 160).fdiv 16) 15) 4).bind fun w25 => k .none (mm (pc + 1) (w25 + (bAnd ((bAnd ((a + (bAnd (bNot v2) 255)) + (bAnd p 1)) 255) + 0) 15)) x y sp (bOr (bOr (bAnd p (bNot (bOr (bOr (bOr 1 2) 128) 64))) (bAnd (bAnd ((a + (bAnd (bNot v2) 255)) + (bAnd p 1)) 255) 128)) 64) cyc 0 (.int 0) s m)) ((BOp.ev .shl (bAnd (((bAnd ((a + (bAnd (bNot v2) 255)) + (bAnd p 1)) 255) + 160).fdiv 16) 15) 4).bind fun w26 => k .none (mm (pc + 1) (w26 + (bAnd ((bAnd ((a + (bAnd (bNot v2) 255)) + (bAnd p 1)) 255) + 0) 15)) x y sp (bOr (bAnd p (bNot (bOr (bOr (bOr 1 2) 128) 64))) (bAnd (bAnd ((a + (bAnd (bNot v2) 255)) + (bAnd p 1)) 255) 128)) cyc 0 (.int 0) s m))))) (cond (decide ((a + (bAnd (bNot v2) 255)) + (bAnd p 1) > 255)) (cond (bAnd ((a + (bAnd (bNot v2) 255)) + (bAnd p 1)) 255 == 0) (cond (bAnd (bAnd (bXor a v2) (bXor a (bAnd ((a + (bAnd (bNot v2) 255)) + (bAnd p 1)) 255))) 128 != 0) ((BOp.ev .shl (bAnd (((bAnd ((a + (bAnd (bNot v2) 255)) + (bAnd p 1)) 255) + 0).fdiv 16) 15) 4).bind fun w27 => k .none (mm (pc + 1) (w27 + (bAnd ((bAnd ((a + (bAnd (bNot v2) 255)) + (bAnd p 1)) 255) + 0) 15)) x y sp (bOr (bOr (bOr (bAnd p (bNot (bOr (bOr (bOr 1 2) 128) 64))) 2) 1) 64) cyc 0 (.int 0) s m)) ((BOp.ev .shl (bAnd (((bAnd ((a + (bAnd (bNot v2) 255)) + (bAnd p 1)) 255) + 0).fdiv 16) 15) 4).bind fun w28 => k .none (mm (pc + 1) (w28 + (bAnd ((bAnd ((a + (bAnd (bNot v2) 255)) + (bAnd p 1)) 255) + 0) 15)) x y sp (bOr (bOr (bAnd p (bNot (bOr (bOr (bOr 1 2) 128) 64))) 2) 1) cyc 0 (.int 0) s m))) (cond (bAnd (bAnd (bXor a v2) (bXor a (bAnd ((a + (bAnd (bNot v2) 255)) + (bAnd p 1)) 255))) 128 != 0) ((BOp.ev .shl (bAnd (((bAnd ((a + (bAnd (bNot v2) 255)) + (bAnd p 1)) 255) + 0).fdiv 16) 15) 4).bind fun w29 => k .none (mm (pc + 1) (w29 + (bAnd ((bAnd ((a + (bAnd (bNot v2) 255)) + (bAnd p 1)) 255) + 0) 15)) x y sp (bOr (bOr (bOr (bAnd p (bNot (bOr (bOr (bOr 1 2) 128) 64))) (bAnd (bAnd ((a + (bAnd (bNot v2) 255)) + (bAnd p 1)) 255) 128)) 1) 64) cyc 0 (.int 0) s m)) ((BOp.ev .shl (bAnd (((bAnd ((a + (bAnd (bNot v2) 255)) + (bAnd p 1)) 255) + 0).fdiv 16) 15) 4).bind fun w30 => k .none (mm (pc + 1) (w30 + (bAnd ((bAnd ((a + (bAnd (bNot v2) 255)) + (bAnd p 1)) 255) + 0) 15)) x y sp (bOr (bOr (bAnd p (bNot (bOr (bOr (bOr 1 2) 128) 64))) (bAnd (bAnd ((a + (bAnd (bNot v2) 255)) + (bAnd p 1)) 255) 128)) 1) cyc 0 (.int 0) s m)))) (cond (bAnd ((a + (bAnd (bNot v2) 255)) + (bAnd p 1)) 255 == 0) (cond (bAnd (bAnd (bXor a v2) (bXor a (bAnd ((a + (bAnd (bNot v2) 255)) + (bAnd p 1)) 255))) 128 != 0) ((BOp.ev .shl (bAnd (((bAnd ((a + (bAnd (bNot v2) 255)) + (bAnd p 1)) 255) + 0).fdiv 16) 15) 4).bind fun w31 => k .none (mm (pc + 1) (w31 + (bAnd ((bAnd ((a + (bAnd (bNot v2) 255)) + (bAnd p 1)) 255) + 0) 15)) x y sp (bOr (bOr (bAnd p (bNot (bOr (bOr (bOr 1 2) 128) 64))) 2) 64) cyc 0 (.int 0) s m)) ((BOp.ev .shl (bAnd (((bAnd ((a + (bAnd (bNot v2) 255)) + (bAnd p 1)) 255) + 0).fdiv 16) 15) 4).bind fun w32 => k .none (mm (pc + 1) (w32 + (bAnd ((bAnd ((a + (bAnd (bNot v2) 255)) + (bAnd p 1)) 255) + 0) 15)) x y sp (bOr (bAnd p (bNot (bOr (bOr (bOr 1 2) 128) 64))) 2) cyc 0 (.int 0) s m))) (cond (bAnd (bAnd (bXor a v2) (bXor a (bAnd ((a + (bAnd (bNot v2) 255)) + (bAnd p 1)) 255))) 128 != 0) ((BOp.ev .shl (bAnd (((bAnd ((a + (bAnd (bNot v2) 255)) + (bAnd p 1)) 255) + 0).fdiv 16) 15) 4).bind fun w33 => k .none (mm (pc + 1) (w33 + (bAnd ((bAnd ((a + (bAnd (bNot v2) 255)) + (bAnd p 1)) 255) + 0) 15)) x y sp (bOr (bOr (bAnd p (bNot (bOr (bOr (bOr 1 2) 128) 64))) (bAnd (bAnd ((a + (bAnd (bNot v2) 255)) + (bAnd p 1)) 255) 128)) 64) cyc 0 (.int 0) s m)) ((BOp.ev .shl (bAnd (((bAnd ((a + (bAnd (bNot v2) 255)) + (bAnd p 1)) 255) + 0).fdiv 16) 15) 4).bind fun w34 => k .none (mm (pc + 1) (w34 + (bAnd ((bAnd ((a + (bAnd (bNot v2) 255)) + (bAnd p 1)) 255) + 0) 15)) x y sp (bOr (bAnd p (bNot (bOr (bOr (bOr 1 2) 128) 64))) (bAnd (bAnd ((a + (bAnd (bNot v2) 255)) + (bAnd p 1)) 255) 128)) cyc 0 (.int 0) s m))))))) (cond (bAnd (bAnd (bXor a v2) (bXor a ((a + (bAnd (bNot v2) 255)) + (bAnd p 1)))) 128 != 0) (cond (bAnd ((a + (bAnd (bNot v2) 255)) + (bAnd p 1)) 255 == 0) (cond (decide ((a + (bAnd (bNot v2) 255)) + (bAnd p 1) > 255)) (k .none (mm (pc + 1) (bAnd ((a + (bAnd (bNot v2) 255)) + (bAnd p 1)) 255) x y sp (bOr (bOr (bOr (bOr (bAnd p (bNot (bOr (bOr (bOr 1 2) 64) 128))) 64) 2) 1) (bAnd (bAnd ((a + (bAnd (bNot v2) 255)) + (bAnd p 1)) 255) 128)) cyc 0 (.int 0) s m)) (k .none (mm (pc + 1) (bAnd ((a + (bAnd (bNot v2) 255)) + (bAnd p 1)) 255) x y sp (bOr (bOr (bOr (bAnd p (bNot (bOr (bOr (bOr 1 2) 64) 128))) 64) 2) (bAnd (bAnd ((a + (bAnd (bNot v2) 255)) + (bAnd p 1)) 255) 128)) cyc 0 (.int 0) s m))) (cond (decide ((a + (bAnd (bNot v2) 255)) + (bAnd p 1) > 255)) (k .none (mm (pc + 1) (bAnd ((a + (bAnd (bNot v2) 255)) + (bAnd p 1)) 255) x y sp (bOr (bOr (bOr (bAnd p (bNot (bOr (bOr (bOr 1 2) 64) 128))) 64) 1) (bAnd (bAnd ((a + (bAnd (bNot v2) 255)) + (bAnd p 1)) 255) 128)) cyc 0 (.int 0) s m)) (k .none (mm (pc + 1) (bAnd ((a + (bAnd (bNot v2) 255)) + (bAnd p 1)) 255) x y sp (bOr (bOr (bAnd p (bNot (bOr (bOr (bOr 1 2) 64) 128))) 64) (bAnd (bAnd ((a + (bAnd (bNot v2) 255)) + (bAnd p 1)) 255) 128)) cyc 0 (.int 0) s m)))) (cond (bAnd ((a + (bAnd (bNot v2) 255)) + (bAnd p 1)) 255 == 0) (cond (decide ((a + (bAnd (bNot v2) 255)) + (bAnd p 1) > 255)) (k .none (mm (pc + 1) (bAnd ((a + (bAnd (bNot v2) 255)) + (bAnd p 1)) 255) x y sp (bOr (bOr (bOr (bAnd p (bNot (bOr (bOr (bOr 1 2) 64) 128))) 2) 1) (bAnd (bAnd ((a + (bAnd (bNot v2) 255)) + (bAnd p 1)) 255) 128)) cyc 0 (.int 0) s m)) (k .none (mm (pc + 1) (bAnd ((a + (bAnd (bNot v2) 255)) + (bAnd p 1)) 255) x y sp (bOr (bOr (bAnd p (bNot (bOr (bOr (bOr 1 2) 64) 128))) 2) (bAnd (bAnd ((a + (bAnd (bNot v2) 255)) + (bAnd p 1)) 255) 128)) cyc 0 (.int 0) s m))) (cond (decide ((a + (bAnd (bNot v2) 255)) + (bAnd p 1) > 255)) (k .none (mm (pc + 1) (bAnd ((a + (bAnd (bNot v2) 255)) + (bAnd p 1)) 255) x y sp (bOr (bOr (bAnd p (bNot (bOr (bOr (bOr 1 2) 64) 128))) 1) (bAnd (bAnd ((a + (bAnd (bNot v2) 255)) + (bAnd p 1)) 255) 128)) cyc 0 (.int 0) s m)) (k .none (mm (pc + 1) (bAnd ((a + (bAnd (bNot v2) 255)) + (bAnd p 1)) 255) x y sp (bOr (bAnd p (bNot (bOr (bOr (bOr 1 2) 64) 128))) (bAnd (bAnd ((a + (bAnd (bNot v2) 255)) + (bAnd p 1)) 255) 128)) cyc 0 (.int 0) s m))))) := by kernel_rfl
theorem r_0x95 {pc a x y sp p cyc : Int} {s : V} {m : List Int} {k : KM} : callK cls 11 21 [] (mm pc a x y sp p cyc 0 (.int 0) s m) k = (at? m pc).bind fun v1 => (putAt m (bAnd 255 (x + v1)) a).bind fun m2 => k .none (mm (pc + 1) a x y sp p cyc 0 (.int 0) s m2) := by kernel_rfl
theorem r_0xb5 {pc a x y sp p cyc : Int} {s : V} {m : List Int} {k : KM} : callK cls 11 23 [] (mm pc a x y sp p cyc 0 (.int 0) s m) k = (at? m pc).bind fun v1 => (at? m (bAnd 255 (x + v1))).bind fun v2 => cond (v2 == 0) (k .none (mm (pc + 1) v2 x y sp (bOr (bAnd p (bNot (bOr 2 128))) 2) cyc 0 (.int 0) s m)) (k .none (mm (pc + 1) v2 x y sp (bOr (bAnd p (bNot (bOr 2 128))) (bAnd v2 128)) cyc 0 (.int 0) s m)) := by kernel_rfl
theorem r_0xf8 {pc a x y sp p cyc : Int} {s : V} {m : List Int} {k : KM} : callK cls 11 29 [] (mm pc a x y sp p cyc 0 (.int 0) s m) k = k .none (mm pc a x y sp (bOr p 8) cyc 0 (.int 0) s m) := by kernel_rfl
theorem r_0xd8 {pc a x y sp p cyc : Int} {s : V} {m : List Int} {k : KM} : callK cls 11 25 [] (mm pc a x y sp p cyc 0 (.int 0) s m) k = k .none (mm pc a x y sp (bAnd p (bNot 8)) cyc 0 (.int 0) s m) := by kernel_rfl
theorem r_0x38 {pc a x y sp p cyc : Int} {s : V} {m : List Int} {k : KM} : callK cls 11 19 [] (mm pc a x y sp p cyc 0 (.int 0) s m) k = k .none (mm pc a x y sp (bOr p 1) cyc 0 (.int 0) s m) := by kernel_rfl
theorem r_0x18 {pc a x y sp p cyc : Int} {s : V} {m : List Int} {k : KM} : callK cls 11 18 [] (mm pc a x y sp p cyc 0 (.int 0) s m) k = k .none (mm pc a x y sp (bAnd p (bNot 1)) cyc 0 (.int 0) s m) := by kernel_rfl
theorem r_0xa2 {pc a x y sp p cyc : Int} {s : V} {m : List Int} {k : KM} : callK cls 11 22 [] (mm pc a x y sp p cyc 0 (.int 0) s m) k = (at? m pc).bind fun v1 => cond (v1 == 0) (k .none (mm (pc + 1) a v1 y sp (bOr (bAnd p (bNot (bOr 2 128))) 2) cyc 0 (.int 0) s m)) (k .none (mm (pc + 1) a v1 y sp (bOr (bAnd p (bNot (bOr 2 128))) (bAnd v1 128)) cyc 0 (.int 0) s m)) := by kernel_rfl
theorem r_0xe8 {pc a x y sp p cyc : Int} {s : V} {m : List Int} {k : KM} : callK cls 11 26 [] (mm pc a x y sp p cyc 0 (.int 0) s m) k = cond (bAnd (x + 1) 255 == 0) (k .none (mm pc a (bAnd (x + 1) 255) y sp (bOr (bAnd p (bNot (bOr 2 128))) 2) cyc 0 (.int 0) s m)) (k .none (mm pc a (bAnd (x + 1) 255) y sp (bOr (bAnd p (bNot (bOr 2 128))) (bAnd (bAnd (x + 1) 255) 128)) cyc 0 (.int 0) s m)) := by kernel_rfl
theorem r_0xd0 {pc a x y sp p cyc : Int} {s : V} {m : List Int} {k : KM} : callK cls 11 24 [] (mm pc a x y sp p cyc 0 (.int 2) s m) k = cond (bAnd p 2 != 0) (k .none (mm (pc + 1) a x y sp p cyc 0 (.int 2) s m)) ((at? m pc).bind fun v1 => cond (bAnd v1 128 != 0) (cond (bAnd (pc + 1) 65280 != bAnd (((pc + 1) - (bXor v1 255)) - 1) 65280) (k .none (mm (bAnd (((pc + 1) - (bXor v1 255)) - 1) 65535) a x y sp p cyc ((0 + 1) + 1) (.int 2) s m)) (k .none (mm (bAnd (((pc + 1) - (bXor v1 255)) - 1) 65535) a x y sp p cyc (0 + 1) (.int 2) s m))) (cond (bAnd (pc + 1) 65280 != bAnd ((pc + 1) + v1) 65280) (k .none (mm (bAnd ((pc + 1) + v1) 65535) a x y sp p cyc ((0 + 1) + 1) (.int 2) s m)) (k .none (mm (bAnd ((pc + 1) + v1) 65535) a x y sp p cyc (0 + 1) (.int 2) s m)))) := by kernel_rfl
noncomputable def stepRest : Ss := match md_step.body with
  | .cons _ (.cons _ (.cons _ (.cons _ (.cons _ r)))) => r
  | _ => .nil
theorem r_step1 {pc a x y sp p cyc e : Int} {ad s : V} {m : List Int} {k : KM} : callK cls 12 i_step [] (mm pc a x y sp p cyc e ad s m) k = (at? m pc).bind fun op => (at? tab_extracycles op).bind fun xt => if 0 ≤ op then (theInstr[op.toNat]?).bind fun j => callK cls 11 j [] (mm (bAnd (pc + 1) 65535) a x y sp p cyc 0 (.int xt) s m) (fun _ σ => kSs cls (callK cls 11) stepRest [some .self, some (.int op)] σ fun fl _ σ' => k fl.out σ') else none := by kernel_rfl
theorem r_step2 {pc a x y sp p cyc e op : Int} {ad s : V} {m : List Int} {k : KS} : kSs cls (callK cls 11) stepRest [some .self, some (.int op)] (mm pc a x y sp p cyc e ad s m) k = (at? tab_cycletime op).bind fun ct => k (.ret .self) [some .self, some (.int op)] (mm (bAnd pc 65535) a x y sp p (cyc + (ct + e)) e ad s m) := by kernel_rfl
structure Y where
  pc : Int
  a : Int
  x : Int
  y : Int
  sp : Int
  n : Bool
  v : Bool
  bb : Bool
  d : Bool
  i : Bool
  z : Bool
  c : Bool
  cyc : Int
  mem : List Int
noncomputable def Y.m (u : Y) (e : Int) (ad s : V) : M := mm u.pc u.a u.x u.y u.sp (pk u.n u.v u.bb u.d u.i u.z u.c) u.cyc e ad s u.mem
noncomputable def Stp (u u' : Y) : Prop := ∀ e ad s, ∃ e' ad', callM cls deep i_step [] (u.m e ad s) = some (.self, u'.m e' ad' s)
theorem stp_of {u u' : Y} {op ct xt e : Int} {j : Nat} (hT : (at? tab_cycletime op, at? tab_extracycles op, theInstr[op.toNat]?, decide (0 ≤ op)) = (some ct, some xt, some j, true)) (hop : at? u.mem u.pc = some op) (hp : 0 ≤ u.pc ∧ u.pc < 65535)
    (hc : ∀ (s : V) (k : KM), callK cls 11 j [] (mm (u.pc + 1) u.a u.x u.y u.sp (pk u.n u.v u.bb u.d u.i u.z u.c) u.cyc 0 (.int xt) s u.mem) k = k .none (u'.m e (.int xt) s)) (hq : 0 ≤ u'.pc ∧ u'.pc < 65536) : Stp u { u' with cyc := u'.cyc + (ct + e) } := by
  intro e0 a0 s
  obtain ⟨h0, h1, h2, h3⟩ : _ ∧ _ ∧ _ ∧ _ := by simpa only [Prod.mk.injEq] using hT
  refine ⟨e, .int xt, callM_of (r_step1.trans (bE hop (bE h1 (iE (of_decide_eq_true h3) (bE h2 ?_)))))⟩
  rw [show bAnd (u.pc + 1) 65535 = u.pc + 1 from and_65535 (by lia) (by lia), hc]
  exact r_step2.trans (bE h0 (by rw [show bAnd u'.pc 65535 = u'.pc from and_65535 hq.1 hq.2]; rfl))
noncomputable def Oc (m : List Int) (k w : Int) : Prop := at? m k = some w ∧ Oct w
theorem oct_mod (w : Int) : Oct (w % 256) := ⟨by lia, by lia⟩
theorem pk_orD : ∀ n v bb d i z c, bOr (pk n v bb d i z c) 8 = pk n v bb true i z c := by decide +kernel
theorem pk_clD : ∀ n v bb d i z c, bAnd (pk n v bb d i z c) (bNot 8) = pk n v bb false i z c := by decide +kernel
section
variable {pc a x y sp cyc : Int} {n v bb d i z c : Bool} {m : List Int}
theorem s_LDXi {w : Int} (h0 : at? m pc = some 162) (hv : Oc m (pc + 1) w) (hp : 0 ≤ pc ∧ pc < 65000) :
    Stp ⟨pc, a, x, y, sp, n, v, bb, d, i, z, c, cyc, m⟩ ⟨pc + 1 + 1, a, w, y, sp, decide (128 ≤ w), v, bb, d, i, decide (w = 0), c, cyc + (2 + 0), m⟩ := 
  stp_of (u := ⟨pc, a, x, y, sp, n, v, bb, d, i, z, c, cyc, m⟩) (u' := ⟨pc + 1 + 1, a, w, y, sp, decide (128 ≤ w), v, bb, d, i, decide (w = 0), c, cyc, m⟩) (xt := 0) (e := 0) (by kernel_rfl) h0 (by dsimp only; lia) (fun s k' => (r_0xa2).trans (bE hv.1 (fl_NZ (fun q => k' .none (mm (pc + 1 + 1) a w y sp q cyc 0 (.int 0) s m)) hv.2))) (by dsimp only; lia)
theorem s_CLC (h0 : at? m pc = some 24) (hp : 0 ≤ pc ∧ pc < 65000) :
    Stp ⟨pc, a, x, y, sp, n, v, bb, d, i, z, c, cyc, m⟩ ⟨pc + 1, a, x, y, sp, n, v, bb, d, i, z, false, cyc + (2 + 0), m⟩ := 
  stp_of (u := ⟨pc, a, x, y, sp, n, v, bb, d, i, z, c, cyc, m⟩) (u' := ⟨pc + 1, a, x, y, sp, n, v, bb, d, i, z, false, cyc, m⟩) (xt := 0) (e := 0) (by kernel_rfl) h0 (by dsimp only; lia) (fun s k' => (r_0x18).trans (congrArg (fun q => k' .none (mm (pc + 1) a x y sp q cyc 0 (.int 0) s m)) (pk_clC ..))) (by dsimp only; lia)
theorem s_SEC (h0 : at? m pc = some 56) (hp : 0 ≤ pc ∧ pc < 65000) :
    Stp ⟨pc, a, x, y, sp, n, v, bb, d, i, z, c, cyc, m⟩ ⟨pc + 1, a, x, y, sp, n, v, bb, d, i, z, true, cyc + (2 + 0), m⟩ := 
  stp_of (u := ⟨pc, a, x, y, sp, n, v, bb, d, i, z, c, cyc, m⟩) (u' := ⟨pc + 1, a, x, y, sp, n, v, bb, d, i, z, true, cyc, m⟩) (xt := 0) (e := 0) (by kernel_rfl) h0 (by dsimp only; lia) (fun s k' => (r_0x38).trans (congrArg (fun q => k' .none (mm (pc + 1) a x y sp q cyc 0 (.int 0) s m)) (pk_orC ..))) (by dsimp only; lia)
theorem s_BNE_no (h0 : at? m pc = some 208) (hp : 0 ≤ pc ∧ pc < 65000) :
    Stp ⟨pc, a, x, y, sp, n, v, bb, d, i, true, c, cyc, m⟩ ⟨pc + 1 + 1, a, x, y, sp, n, v, bb, d, i, true, c, cyc + (2 + 0), m⟩ := 
  stp_of (u := ⟨pc, a, x, y, sp, n, v, bb, d, i, true, c, cyc, m⟩) (u' := ⟨pc + 1 + 1, a, x, y, sp, n, v, bb, d, i, true, c, cyc, m⟩) (xt := 2) (e := 0) (by kernel_rfl) h0 (by dsimp only; lia) (fun s k' => (r_0xd0).trans (cE (fun h => rfl) (fun h => by rw [z_on] at h; injection h))) (by dsimp only; lia)
theorem s_BNE {b t : Int} (h0 : at? m pc = some 208) (h1 : Oc m (pc + 1) b) (ht : t = if 128 ≤ b then pc + 1 + 1 + b - 256 else pc + 1 + 1 + b) (tb : 0 ≤ t ∧ t < 65536) (same : (pc + 1 + 1) / 256 = t / 256) (hp : 0 ≤ pc ∧ pc < 65000) :
    Stp ⟨pc, a, x, y, sp, n, v, bb, d, i, false, c, cyc, m⟩ ⟨t, a, x, y, sp, n, v, bb, d, i, false, c, cyc + (2 + 1), m⟩ := 
  stp_of (u := ⟨pc, a, x, y, sp, n, v, bb, d, i, false, c, cyc, m⟩) (u' := ⟨t, a, x, y, sp, n, v, bb, d, i, false, c, cyc, m⟩) (xt := 2) (e := 1) (by kernel_rfl) h0 (by dsimp only; lia) (fun s k' => (r_0xd0).trans (cE (fun h => by rw [z_on] at h; injection h) (fun h => bE h1.1 (fl_br (fun t e => k' .none (mm t a x y sp (pk n v bb d i false c) cyc e (.int 2) s m)) h1.2 ht tb.1 tb.2 (by dsimp only; lia) (by dsimp only; lia) same)))) (tb)
theorem s_LDAzx {k w : Int} (h0 : at? m pc = some 181) (h1 : Oc m (pc + 1) k) (ox : Oct x) (hv : Oc m ((x + k) % 256) w) (hp : 0 ≤ pc ∧ pc < 65000) :
    Stp ⟨pc, a, x, y, sp, n, v, bb, d, i, z, c, cyc, m⟩ ⟨pc + 1 + 1, w, x, y, sp, decide (128 ≤ w), v, bb, d, i, decide (w = 0), c, cyc + (4 + 0), m⟩ := 
  stp_of (u := ⟨pc, a, x, y, sp, n, v, bb, d, i, z, c, cyc, m⟩) (u' := ⟨pc + 1 + 1, w, x, y, sp, decide (128 ≤ w), v, bb, d, i, decide (w = 0), c, cyc, m⟩) (xt := 0) (e := 0) (by kernel_rfl) h0 (by dsimp only; lia) (fun s k' => by
    have q1 : bAnd 255 (x + k) = (x + k) % 256 := and_255l (by have := ox.1; have := h1.2.1; lia) (by have := ox.2; have := h1.2.2; lia)
    refine (r_0xb5).trans (bE h1.1 ?_)
    rw [q1]
    exact bE hv.1 (fl_NZ (fun q => k' .none (mm (pc + 1 + 1) w x y sp q cyc 0 (.int 0) s m)) hv.2)) (by dsimp only; lia)
theorem s_STAzx {k w : Int} (h0 : at? m pc = some 149) (h1 : Oc m (pc + 1) k) (ox : Oct x) (hv : Oc m ((x + k) % 256) w) (hp : 0 ≤ pc ∧ pc < 65000) :
    Stp ⟨pc, a, x, y, sp, n, v, bb, d, i, z, c, cyc, m⟩ ⟨pc + 1 + 1, a, x, y, sp, n, v, bb, d, i, z, c, cyc + (4 + 0), m.set ((x + k) % 256).toNat a⟩ := 
  stp_of (u := ⟨pc, a, x, y, sp, n, v, bb, d, i, z, c, cyc, m⟩) (u' := ⟨pc + 1 + 1, a, x, y, sp, n, v, bb, d, i, z, c, cyc, m.set ((x + k) % 256).toNat a⟩) (xt := 0) (e := 0) (by kernel_rfl) h0 (by dsimp only; lia) (fun s k' => by
    have q1 : bAnd 255 (x + k) = (x + k) % 256 := and_255l (by have := ox.1; have := h1.2.1; lia) (by have := ox.2; have := h1.2.2; lia)
    refine (r_0x95).trans (bE h1.1 ?_)
    rw [q1]
    exact bE (put_at hv.1 _) rfl) (by dsimp only; lia)
theorem s_ADCzx {k w r : Int} (h0 : at? m pc = some 117) (h1 : Oc m (pc + 1) k) (ox : Oct x) (hv : Oc m ((x + k) % 256) w) (oa : Oct a) (hr : r = w + a + cond c 1 0) (hp : 0 ≤ pc ∧ pc < 65000) :
    Stp ⟨pc, a, x, y, sp, n, v, bb, false, i, z, c, cyc, m⟩ ⟨pc + 1 + 1, r % 256, x, y, sp, decide (128 ≤ r % 256), bAnd (bAnd (bNot (bXor a w)) (bXor a r)) 128 != 0, bb, false, i, decide (r % 256 = 0), decide (255 < r), cyc + (4 + 0), m⟩ := 
  stp_of (u := ⟨pc, a, x, y, sp, n, v, bb, false, i, z, c, cyc, m⟩) (u' := ⟨pc + 1 + 1, r % 256, x, y, sp, decide (128 ≤ r % 256), bAnd (bAnd (bNot (bXor a w)) (bXor a r)) 128 != 0, bb, false, i, decide (r % 256 = 0), decide (255 < r), cyc, m⟩) (xt := 0) (e := 0) (by kernel_rfl) h0 (by dsimp only; lia) (fun s k' => by
    have q1 : bAnd 255 (x + k) = (x + k) % 256 := and_255l (by have := ox.1; have := h1.2.1; lia) (by have := ox.2; have := h1.2.2; lia)
    refine (r_0x75).trans (bE h1.1 ?_)
    rw [q1]
    exact bE hv.1 (fl_ADC (fun u q => k' .none (mm (pc + 1 + 1) u x y sp q cyc 0 (.int 0) s m)) _ hv.2 oa hr)) (by dsimp only; lia)
theorem s_SBCzx {k w r : Int} (h0 : at? m pc = some 245) (h1 : Oc m (pc + 1) k) (ox : Oct x) (hv : Oc m ((x + k) % 256) w) (oa : Oct a) (hr : r = a + (255 - w) + cond c 1 0) (hp : 0 ≤ pc ∧ pc < 65000) :
    Stp ⟨pc, a, x, y, sp, n, v, bb, false, i, z, c, cyc, m⟩ ⟨pc + 1 + 1, r % 256, x, y, sp, decide (128 ≤ r % 256), bAnd (bAnd (bXor a w) (bXor a r)) 128 != 0, bb, false, i, decide (r % 256 = 0), decide (255 < r), cyc + (4 + 0), m⟩ := 
  stp_of (u := ⟨pc, a, x, y, sp, n, v, bb, false, i, z, c, cyc, m⟩) (u' := ⟨pc + 1 + 1, r % 256, x, y, sp, decide (128 ≤ r % 256), bAnd (bAnd (bXor a w) (bXor a r)) 128 != 0, bb, false, i, decide (r % 256 = 0), decide (255 < r), cyc, m⟩) (xt := 0) (e := 0) (by kernel_rfl) h0 (by dsimp only; lia) (fun s k' => by
    have q1 : bAnd 255 (x + k) = (x + k) % 256 := and_255l (by have := ox.1; have := h1.2.1; lia) (by have := ox.2; have := h1.2.2; lia)
    refine (r_0xf5).trans (bE h1.1 ?_)
    rw [q1]
    exact bE hv.1 (fl_SBC (fun u q => k' .none (mm (pc + 1 + 1) u x y sp q cyc 0 (.int 0) s m)) _ hv.2 oa hr)) (by dsimp only; lia)
theorem s_INX (h0 : at? m pc = some 232) (ox : Oct x) (hp : 0 ≤ pc ∧ pc < 65000) :
    Stp ⟨pc, a, x, y, sp, n, v, bb, d, i, z, c, cyc, m⟩ ⟨pc + 1, a, (x + 1) % 256, y, sp, decide (128 ≤ (x + 1) % 256), v, bb, d, i, decide ((x + 1) % 256 = 0), c, cyc + (2 + 0), m⟩ := 
  stp_of (u := ⟨pc, a, x, y, sp, n, v, bb, d, i, z, c, cyc, m⟩) (u' := ⟨pc + 1, a, (x + 1) % 256, y, sp, decide (128 ≤ (x + 1) % 256), v, bb, d, i, decide ((x + 1) % 256 = 0), c, cyc, m⟩) (xt := 0) (e := 0) (by kernel_rfl) h0 (by dsimp only; lia) (fun s k' => (r_0xe8).trans (by
    show cond (bAnd (x + 1) 255 == 0) _ _ = _
    rw [oct_inc ox]
    exact fl_NZ (fun q => k' .none (mm (pc + 1) a ((x + 1) % 256) y sp q cyc 0 (.int 0) s m)) (oct_mod _))) (by dsimp only; lia)
theorem s_SED (h0 : at? m pc = some 248) (hp : 0 ≤ pc ∧ pc < 65000) :
    Stp ⟨pc, a, x, y, sp, n, v, bb, d, i, z, c, cyc, m⟩ ⟨pc + 1, a, x, y, sp, n, v, bb, true, i, z, c, cyc + (2 + 0), m⟩ := 
  stp_of (u := ⟨pc, a, x, y, sp, n, v, bb, d, i, z, c, cyc, m⟩) (u' := ⟨pc + 1, a, x, y, sp, n, v, bb, true, i, z, c, cyc, m⟩) (xt := 0) (e := 0) (by kernel_rfl) h0 (by dsimp only; lia) (fun s k' => (r_0xf8).trans (congrArg (fun q => k' .none (mm (pc + 1) a x y sp q cyc 0 (.int 0) s m)) (pk_orD ..))) (by dsimp only; lia)
theorem s_CLD (h0 : at? m pc = some 216) (hp : 0 ≤ pc ∧ pc < 65000) :
    Stp ⟨pc, a, x, y, sp, n, v, bb, d, i, z, c, cyc, m⟩ ⟨pc + 1, a, x, y, sp, n, v, bb, false, i, z, c, cyc + (2 + 0), m⟩ := 
  stp_of (u := ⟨pc, a, x, y, sp, n, v, bb, d, i, z, c, cyc, m⟩) (u' := ⟨pc + 1, a, x, y, sp, n, v, bb, false, i, z, c, cyc, m⟩) (xt := 0) (e := 0) (by kernel_rfl) h0 (by dsimp only; lia) (fun s k' => (r_0xd8).trans (congrArg (fun q => k' .none (mm (pc + 1) a x y sp q cyc 0 (.int 0) s m)) (pk_clD ..))) (by dsimp only; lia)
end
end Mine

end
section
open PySem PySem.W PyProof.Rows
set_option maxRecDepth 100000
set_option maxHeartbeats 0
set_option linter.unusedSimpArgs false
set_option linter.unusedVariables false
namespace Mine
noncomputable def enc (x : Int) : Int := x / 10 * 16 + x % 10
theorem and_15 {v : Int} (h : 0 ≤ v) : bAnd v 15 = v % 16 := and_mask 4 h
theorem oct_n15 {v : Int} (o : Oct v) : bAnd (bNot v) 15 = 15 - v % 16 := oct_ind (P := fun v => bAnd (bNot v) 15 = 15 - v % 16) (by decide +kernel) o
theorem oct_nhi {v : Int} (o : Oct v) : bAnd ((bNot v).fdiv 16) 15 = 15 - v / 16 := oct_ind (P := fun v => bAnd ((bNot v).fdiv 16) 15 = 15 - v / 16) (by decide +kernel) o
theorem oct_hi {v : Int} (o : Oct v) : bAnd (v.fdiv 16) 15 = v / 16 := oct_ind (P := fun v => bAnd (v.fdiv 16) 15 = v / 16) (by decide +kernel) o
theorem shl4 {w : Int} (h : 0 ≤ w ∧ w < 16) : BOp.ev .shl w 4 = some (w * 16) := by
  have : w.natAbs < 2 ^ 64 := by lia
  show (if (0 : Int) ≤ 4 ∧ (4 : Int) ≤ 64 ∧ w.natAbs < 2 ^ 64 then some (w * 2 ^ Int.toNat 4) else none) = _
  rw [if_pos ⟨by decide, by decide, this⟩]; rfl
theorem pk_czNV : ∀ n v bb d i z c, bAnd (pk n v bb d i z c) (bNot (bOr (bOr (bOr 1 2) 128) 64)) = pk false false bb d i false false := by decide +kernel
section
variable {γ : Type} {n v bb i z c : Bool} {a w ph pl qh ql r u : Int}
theorem dec_end {V cc : Bool} (F : Int → Int → Option γ) {res : Int} (ou : Oct u) :
    cond (u == 0) (cond V (F res (bOr (cond cc (bOr (bOr (pk false false bb true i false false) 2) 1) (bOr (pk false false bb true i false false) 2)) 64)) (F res (cond cc (bOr (bOr (pk false false bb true i false false) 2) 1) (bOr (pk false false bb true i false false) 2))))
      (cond V (F res (bOr (cond cc (bOr (bOr (pk false false bb true i false false) (bAnd u 128)) 1) (bOr (pk false false bb true i false false) (bAnd u 128))) 64)) (F res (cond cc (bOr (bOr (pk false false bb true i false false) (bAnd u 128)) 1) (bOr (pk false false bb true i false false) (bAnd u 128))))) =
    F res (pk (decide (128 ≤ u)) V bb true i (decide (u = 0)) cc) := by
  have e : bOr (pk false false bb true i false false) (bAnd u 128) = pk (decide (128 ≤ u)) false bb true i false false := by
    rw [oct_128 ou]; cases decide (128 ≤ u)
    · exact pk_or0 ..
    · exact pk_orN ..
  rw [e, pk_orZ, pk_orC, pk_orC, beq_d]
  by_cases h : u = 0
  · rw [decide_eq_true h, decide_eq_false (show ¬ 128 ≤ u by lia)]
    cases V <;> cases cc <;> first | rfl | exact congrArg (F res) (pk_orV ..)
  · rw [decide_eq_false h]
    cases V <;> cases cc <;> first | rfl | exact congrArg (F res) (pk_orV ..)

theorem quad_c {F : Int → Int → Option γ} {oo : Option Int} {H L U Q : Int} {V : Bool} (ho : oo = some H) (oU : Oct U) (hq : Q = pk false false bb true i false false) :
    cond (U == 0) (cond V (oo.bind fun x => F (x + L) (bOr (bOr (bOr Q 2) 1) 64)) (oo.bind fun x => F (x + L) (bOr (bOr Q 2) 1))) (cond V (oo.bind fun x => F (x + L) (bOr (bOr (bOr Q (bAnd U 128)) 1) 64)) (oo.bind fun x => F (x + L) (bOr (bOr Q (bAnd U 128)) 1))) = F (H + L) (pk (decide (128 ≤ U)) V bb true i (decide (U = 0)) true) := by
  subst ho hq; exact dec_end (cc := true) F oU
theorem quad_n {F : Int → Int → Option γ} {oo : Option Int} {H L U Q : Int} {V : Bool} (ho : oo = some H) (oU : Oct U) (hq : Q = pk false false bb true i false false) :
    cond (U == 0) (cond V (oo.bind fun x => F (x + L) (bOr (bOr Q 2) 64)) (oo.bind fun x => F (x + L) (bOr Q 2))) (cond V (oo.bind fun x => F (x + L) (bOr (bOr Q (bAnd U 128)) 64)) (oo.bind fun x => F (x + L) (bOr Q (bAnd U 128)))) = F (H + L) (pk (decide (128 ≤ U)) V bb true i (decide (U = 0)) false) := by
  subst ho hq; exact dec_end (cc := false) F oU
theorem two {b1 b2 b3 : Bool} {A B C D R : Option γ} (h1 : b1 = true → b2 = true → A = R) (h2 : b1 = true → b2 = false → B = R) (h3 : b1 = false → b3 = true → C = R) (h4 : b1 = false → b3 = false → D = R) : cond b1 (cond b2 A B) (cond b3 C D) = R := by
  cases b1
  · cases b3
    · exact h4 rfl rfl
    · exact h3 rfl rfl
  · cases b2
    · exact h2 rfl rfl
    · exact h1 rfl rfl
theorem cond_t {b : Bool} {A D R : Option γ} (h : b = true) (e : A = R) : cond b A D = R := by subst h; exact e
theorem bind_s {o : Option Int} {x : Int} {f : Int → Option γ} {R : Option γ} (h : o = some x) (e : f x = R) : o.bind f = R := by subst h; exact e
theorem shl15 {Y : Int} (h : 0 ≤ Y) : BOp.ev .shl (bAnd Y 15) 4 = some (Y % 16 * 16) := by
  rw [and_15 h, shl4 ⟨Int.emod_nonneg _ (by decide), Int.emod_lt_of_pos _ (by decide)⟩]
theorem and15k {X k : Int} (h : 0 ≤ X) (hk : 0 ≤ k) : bAnd (bAnd X 15 + k) 15 = (X % 16 + k) % 16 := by
  rw [and_15 h, and_15 (Int.add_nonneg (Int.emod_nonneg _ (by decide)) hk)]
theorem shl15k {X k : Int} (h : 0 ≤ X) (hk : 0 ≤ k) : BOp.ev .shl (bAnd (bAnd X 15 + k) 15) 4 = some ((X % 16 + k) % 16 * 16) := by
  rw [and15k h hk, shl4 ⟨Int.emod_nonneg _ (by decide), Int.emod_lt_of_pos _ (by decide)⟩]
theorem oct_dd (x y : Int) : Oct (x % 16 * 16 + y % 16) := ⟨by lia, by lia⟩
theorem dtab : ∀ x y : Fin 20, ((y.val : Int) % 16 + cond (decide ((y.val : Int) > 9)) 6 0) % 16 * 16 + ((x.val : Int) % 16 + cond (decide ((x.val : Int) > 9)) 6 0) % 16 = enc ((10 * ((y.val : Int) - cond (decide ((x.val : Int) > 9)) 1 0) + x.val) % 100) ∧ decide ((y.val : Int) > 9) = decide (100 ≤ 10 * ((y.val : Int) - cond (decide ((x.val : Int) > 9)) 1 0) + x.val) := by decide +kernel
theorem f20 {X : Int} (h : 0 ≤ X ∧ X < 20) : ∃ x : Fin 20, X = (x.val : Int) := ⟨⟨X.toNat, by lia⟩, (Int.toNat_of_nonneg h.1).symm⟩
theorem dig {X Y r : Int} {b1 b2 : Bool} (hX : 0 ≤ X ∧ X < 20) (hY : 0 ≤ Y ∧ Y < 20) (h1 : decide (X > 9) = b1) (h2 : decide (Y > 9) = b2) (hr : r = 10 * (Y - cond b1 1 0) + X) : (Y % 16 + cond b2 6 0) % 16 * 16 + (X % 16 + cond b1 6 0) % 16 = enc (r % 100) ∧ b2 = decide (100 ≤ r) := by
  obtain ⟨x, rfl⟩ := f20 hX
  obtain ⟨y, rfl⟩ := f20 hY
  subst h1 h2 hr
  exact dtab x y
theorem fin_d {F : Int → Int → Option γ} {V : Int → Bool} {U u' K r' : Int} {cc : Bool} (hU : U = u') (hK : K = enc (r' % 100)) (hc : cc = decide (100 ≤ r')) : F K (pk (decide (128 ≤ U)) (V U) bb true i (decide (U = 0)) cc) = F (enc (r' % 100)) (pk (decide (128 ≤ u')) (V u') bb true i (decide (u' = 0)) (decide (100 ≤ r'))) := by
  subst hU hK hc; rfl
theorem brA_c {F : Int → Int → Option γ} {X Y Q k6 : Int} {b1 : Bool} (hX : 0 ≤ X ∧ X < 20) (hY : 0 ≤ Y ∧ Y < 20) (h1 : decide (X > 9) = b1) (h2 : decide (Y > 9) = true) (hr : r = 10 * (Y - cond b1 1 0) + X) (hu : Y % 16 * 16 + X % 16 = u) (hk : cond b1 6 0 = k6) (hk0 : 0 ≤ k6) (hq : Q = pk false false bb true i false false) :
    ((BOp.ev .shl (bAnd Y 15) 4).bind fun w3 => cond (w3 + bAnd X 15 == 0) (cond (bAnd (bAnd (bNot (bXor a w)) (bXor a (w3 + bAnd X 15))) 128 != 0) ((BOp.ev .shl (bAnd (bAnd Y 15 + 6) 15) 4).bind fun x => F (x + bAnd (bAnd X 15 + k6) 15) (bOr (bOr (bOr Q 2) 1) 64)) ((BOp.ev .shl (bAnd (bAnd Y 15 + 6) 15) 4).bind fun x => F (x + bAnd (bAnd X 15 + k6) 15) (bOr (bOr Q 2) 1)))
      (cond (bAnd (bAnd (bNot (bXor a w)) (bXor a (w3 + bAnd X 15))) 128 != 0) ((BOp.ev .shl (bAnd (bAnd Y 15 + 6) 15) 4).bind fun x => F (x + bAnd (bAnd X 15 + k6) 15) (bOr (bOr (bOr Q (bAnd (w3 + bAnd X 15) 128)) 1) 64)) ((BOp.ev .shl (bAnd (bAnd Y 15 + 6) 15) 4).bind fun x => F (x + bAnd (bAnd X 15 + k6) 15) (bOr (bOr Q (bAnd (w3 + bAnd X 15) 128)) 1)))) =
    F (enc (r % 100)) (pk (decide (128 ≤ u)) (bAnd (bAnd (bNot (bXor a w)) (bXor a u)) 128 != 0) bb true i (decide (u = 0)) (decide (100 ≤ r))) := by
  subst hk
  have d := dig hX hY h1 h2 hr
  exact bind_s (shl15 hY.1) ((quad_c (shl15k hY.1 (by decide)) (by rw [and_15 hX.1]; exact oct_dd _ _) hq).trans (fin_d (V := fun U => bAnd (bAnd (bNot (bXor a w)) (bXor a U)) 128 != 0) (by rw [and_15 hX.1]; exact hu) (by rw [and15k hX.1 hk0]; exact d.1) d.2))
theorem brA_n {F : Int → Int → Option γ} {X Y Q k6 : Int} {b1 : Bool} (hX : 0 ≤ X ∧ X < 20) (hY : 0 ≤ Y ∧ Y < 20) (h1 : decide (X > 9) = b1) (h2 : decide (Y > 9) = false) (hr : r = 10 * (Y - cond b1 1 0) + X) (hu : Y % 16 * 16 + X % 16 = u) (hk : cond b1 6 0 = k6) (hk0 : 0 ≤ k6) (hq : Q = pk false false bb true i false false) :
    ((BOp.ev .shl (bAnd Y 15) 4).bind fun w3 => cond (w3 + bAnd X 15 == 0) (cond (bAnd (bAnd (bNot (bXor a w)) (bXor a (w3 + bAnd X 15))) 128 != 0) ((BOp.ev .shl (bAnd (bAnd Y 15 + 0) 15) 4).bind fun x => F (x + bAnd (bAnd X 15 + k6) 15) (bOr (bOr Q 2) 64)) ((BOp.ev .shl (bAnd (bAnd Y 15 + 0) 15) 4).bind fun x => F (x + bAnd (bAnd X 15 + k6) 15) (bOr Q 2)))
      (cond (bAnd (bAnd (bNot (bXor a w)) (bXor a (w3 + bAnd X 15))) 128 != 0) ((BOp.ev .shl (bAnd (bAnd Y 15 + 0) 15) 4).bind fun x => F (x + bAnd (bAnd X 15 + k6) 15) (bOr (bOr Q (bAnd (w3 + bAnd X 15) 128)) 64)) ((BOp.ev .shl (bAnd (bAnd Y 15 + 0) 15) 4).bind fun x => F (x + bAnd (bAnd X 15 + k6) 15) (bOr Q (bAnd (w3 + bAnd X 15) 128))))) =
    F (enc (r % 100)) (pk (decide (128 ≤ u)) (bAnd (bAnd (bNot (bXor a w)) (bXor a u)) 128 != 0) bb true i (decide (u = 0)) (decide (100 ≤ r))) := by
  subst hk
  have d := dig hX hY h1 h2 hr
  exact bind_s (shl15 hY.1) ((quad_n (shl15k hY.1 (by decide)) (by rw [and_15 hX.1]; exact oct_dd _ _) hq).trans (fin_d (V := fun U => bAnd (bAnd (bNot (bXor a w)) (bXor a U)) 128 != 0) (by rw [and_15 hX.1]; exact hu) (by rw [and15k hX.1 hk0]; exact d.1) d.2))
theorem c01 : 0 ≤ cond c (1 : Int) 0 ∧ cond c (1 : Int) 0 ≤ 1 := by cases c; exact ⟨by decide, by decide⟩; exact ⟨by decide, by decide⟩
theorem bcd {a ph pl : Int} (b1 : 0 ≤ ph ∧ ph ≤ 9) (b2 : 0 ≤ pl ∧ pl ≤ 9) (h : a = 16 * ph + pl) : Oct a ∧ a % 16 = pl ∧ a / 16 = ph := ⟨⟨by lia, by lia⟩, by lia, by lia⟩
theorem sumsA {X Y C : Int} {k : Int} (b1 : 0 ≤ ph ∧ ph ≤ 9) (b2 : 0 ≤ pl ∧ pl ≤ 9) (b3 : 0 ≤ qh ∧ qh ≤ 9) (b4 : 0 ≤ ql ∧ ql ≤ 9) (c0 : 0 ≤ C ∧ C ≤ 1) (k0 : 0 ≤ k ∧ k ≤ 1) (eX : X = ql + pl + C) (eY : Y = qh + ph) (hr : r = 10 * ph + pl + (10 * qh + ql) + C) : (0 ≤ X ∧ X < 20) ∧ (0 ≤ Y + k ∧ Y + k < 20) ∧ r = 10 * (Y + k - k) + X := ⟨⟨by lia, by lia⟩, ⟨by lia, by lia⟩, by lia⟩
theorem fl_ADCD (F : Int → Int → Option γ) (D : Option γ) (b1 : 0 ≤ ph ∧ ph ≤ 9) (b2 : 0 ≤ pl ∧ pl ≤ 9) (b3 : 0 ≤ qh ∧ qh ≤ 9) (b4 : 0 ≤ ql ∧ ql ≤ 9) (ha : a = 16 * ph + pl) (hw : w = 16 * qh + ql) (hr : r = 10 * ph + pl + (10 * qh + ql) + cond c 1 0)
    (hu : u = (if ql + pl + cond c 1 0 > 9 then (qh + ph + 1) % 16 else (qh + ph + 0) % 16) * 16 + (ql + pl + cond c 1 0) % 16) :
    cond (bAnd (pk n v bb true i z c) 8 != 0) (cond (decide (((bAnd w 15) + (bAnd a 15)) + (bAnd (pk n v bb true i z c) 1) > 9)) (cond (decide (((bAnd (w.fdiv 16) 15) + (bAnd (a.fdiv 16) 15)) + 1 > 9)) ((BOp.ev .shl (bAnd (((bAnd (w.fdiv 16) 15) + (bAnd (a.fdiv 16) 15)) + 1) 15) 4).bind fun w3 => cond (w3 + (bAnd (((bAnd w 15) + (bAnd a 15)) + (bAnd (pk n v bb true i z c) 1)) 15) == 0) (cond (bAnd (bAnd (bNot (bXor a w)) (bXor a (w3 + (bAnd (((bAnd w 15) + (bAnd a 15)) + (bAnd (pk n v bb true i z c) 1)) 15)))) 128 != 0) ((BOp.ev .shl (bAnd ((bAnd (((bAnd (w.fdiv 16) 15) + (bAnd (a.fdiv 16) 15)) + 1) 15) + 6) 15) 4).bind fun w4 => F (w4 + (bAnd ((bAnd (((bAnd w 15) + (bAnd a 15)) + (bAnd (pk n v bb true i z c) 1)) 15) + 6) 15)) (bOr (bOr (bOr (bAnd (pk n v bb true i z c) (bNot (bOr (bOr (bOr 1 64) 128) 2))) 2) 1) 64)) ((BOp.ev .shl (bAnd ((bAnd (((bAnd (w.fdiv 16) 15) + (bAnd (a.fdiv 16) 15)) + 1) 15) + 6) 15) 4).bind fun w5 => F (w5 + (bAnd ((bAnd (((bAnd w 15) + (bAnd a 15)) + (bAnd (pk n v bb true i z c) 1)) 15) + 6) 15)) (bOr (bOr (bAnd (pk n v bb true i z c) (bNot (bOr (bOr (bOr 1 64) 128) 2))) 2) 1))) (cond (bAnd (bAnd (bNot (bXor a w)) (bXor a (w3 + (bAnd (((bAnd w 15) + (bAnd a 15)) + (bAnd (pk n v bb true i z c) 1)) 15)))) 128 != 0) ((BOp.ev .shl (bAnd ((bAnd (((bAnd (w.fdiv 16) 15) + (bAnd (a.fdiv 16) 15)) + 1) 15) + 6) 15) 4).bind fun w6 => F (w6 + (bAnd ((bAnd (((bAnd w 15) + (bAnd a 15)) + (bAnd (pk n v bb true i z c) 1)) 15) + 6) 15)) (bOr (bOr (bOr (bAnd (pk n v bb true i z c) (bNot (bOr (bOr (bOr 1 64) 128) 2))) (bAnd (w3 + (bAnd (((bAnd w 15) + (bAnd a 15)) + (bAnd (pk n v bb true i z c) 1)) 15)) 128)) 1) 64)) ((BOp.ev .shl (bAnd ((bAnd (((bAnd (w.fdiv 16) 15) + (bAnd (a.fdiv 16) 15)) + 1) 15) + 6) 15) 4).bind fun w7 => F (w7 + (bAnd ((bAnd (((bAnd w 15) + (bAnd a 15)) + (bAnd (pk n v bb true i z c) 1)) 15) + 6) 15)) (bOr (bOr (bAnd (pk n v bb true i z c) (bNot (bOr (bOr (bOr 1 64) 128) 2))) (bAnd (w3 + (bAnd (((bAnd w 15) + (bAnd a 15)) + (bAnd (pk n v bb true i z c) 1)) 15)) 128)) 1)))) ((BOp.ev .shl (bAnd (((bAnd (w.fdiv 16) 15) + (bAnd (a.fdiv 16) 15)) + 1) 15) 4).bind fun w8 => cond (w8 + (bAnd (((bAnd w 15) + (bAnd a 15)) + (bAnd (pk n v bb true i z c) 1)) 15) == 0) (cond (bAnd (bAnd (bNot (bXor a w)) (bXor a (w8 + (bAnd (((bAnd w 15) + (bAnd a 15)) + (bAnd (pk n v bb true i z c) 1)) 15)))) 128 != 0) ((BOp.ev .shl (bAnd ((bAnd (((bAnd (w.fdiv 16) 15) + (bAnd (a.fdiv 16) 15)) + 1) 15) + 0) 15) 4).bind fun w9 => F (w9 + (bAnd ((bAnd (((bAnd w 15) + (bAnd a 15)) + (bAnd (pk n v bb true i z c) 1)) 15) + 6) 15)) (bOr (bOr (bAnd (pk n v bb true i z c) (bNot (bOr (bOr (bOr 1 64) 128) 2))) 2) 64)) ((BOp.ev .shl (bAnd ((bAnd (((bAnd (w.fdiv 16) 15) + (bAnd (a.fdiv 16) 15)) + 1) 15) + 0) 15) 4).bind fun w10 => F (w10 + (bAnd ((bAnd (((bAnd w 15) + (bAnd a 15)) + (bAnd (pk n v bb true i z c) 1)) 15) + 6) 15)) (bOr (bAnd (pk n v bb true i z c) (bNot (bOr (bOr (bOr 1 64) 128) 2))) 2))) (cond (bAnd (bAnd (bNot (bXor a w)) (bXor a (w8 + (bAnd (((bAnd w 15) + (bAnd a 15)) + (bAnd (pk n v bb true i z c) 1)) 15)))) 128 != 0) ((BOp.ev .shl (bAnd ((bAnd (((bAnd (w.fdiv 16) 15) + (bAnd (a.fdiv 16) 15)) + 1) 15) + 0) 15) 4).bind fun w11 => F (w11 + (bAnd ((bAnd (((bAnd w 15) + (bAnd a 15)) + (bAnd (pk n v bb true i z c) 1)) 15) + 6) 15)) (bOr (bOr (bAnd (pk n v bb true i z c) (bNot (bOr (bOr (bOr 1 64) 128) 2))) (bAnd (w8 + (bAnd (((bAnd w 15) + (bAnd a 15)) + (bAnd (pk n v bb true i z c) 1)) 15)) 128)) 64)) ((BOp.ev .shl (bAnd ((bAnd (((bAnd (w.fdiv 16) 15) + (bAnd (a.fdiv 16) 15)) + 1) 15) + 0) 15) 4).bind fun w12 => F (w12 + (bAnd ((bAnd (((bAnd w 15) + (bAnd a 15)) + (bAnd (pk n v bb true i z c) 1)) 15) + 6) 15)) (bOr (bAnd (pk n v bb true i z c) (bNot (bOr (bOr (bOr 1 64) 128) 2))) (bAnd (w8 + (bAnd (((bAnd w 15) + (bAnd a 15)) + (bAnd (pk n v bb true i z c) 1)) 15)) 128)))))) (cond (decide (((bAnd (w.fdiv 16) 15) + (bAnd (a.fdiv 16) 15)) + 0 > 9)) ((BOp.ev .shl (bAnd (((bAnd (w.fdiv 16) 15) + (bAnd (a.fdiv 16) 15)) + 0) 15) 4).bind fun w13 => cond (w13 + (bAnd (((bAnd w 15) + (bAnd a 15)) + (bAnd (pk n v bb true i z c) 1)) 15) == 0) (cond (bAnd (bAnd (bNot (bXor a w)) (bXor a (w13 + (bAnd (((bAnd w 15) + (bAnd a 15)) + (bAnd (pk n v bb true i z c) 1)) 15)))) 128 != 0) ((BOp.ev .shl (bAnd ((bAnd (((bAnd (w.fdiv 16) 15) + (bAnd (a.fdiv 16) 15)) + 0) 15) + 6) 15) 4).bind fun w14 => F (w14 + (bAnd ((bAnd (((bAnd w 15) + (bAnd a 15)) + (bAnd (pk n v bb true i z c) 1)) 15) + 0) 15)) (bOr (bOr (bOr (bAnd (pk n v bb true i z c) (bNot (bOr (bOr (bOr 1 64) 128) 2))) 2) 1) 64)) ((BOp.ev .shl (bAnd ((bAnd (((bAnd (w.fdiv 16) 15) + (bAnd (a.fdiv 16) 15)) + 0) 15) + 6) 15) 4).bind fun w15 => F (w15 + (bAnd ((bAnd (((bAnd w 15) + (bAnd a 15)) + (bAnd (pk n v bb true i z c) 1)) 15) + 0) 15)) (bOr (bOr (bAnd (pk n v bb true i z c) (bNot (bOr (bOr (bOr 1 64) 128) 2))) 2) 1))) (cond (bAnd (bAnd (bNot (bXor a w)) (bXor a (w13 + (bAnd (((bAnd w 15) + (bAnd a 15)) + (bAnd (pk n v bb true i z c) 1)) 15)))) 128 != 0) ((BOp.ev .shl (bAnd ((bAnd (((bAnd (w.fdiv 16) 15) + (bAnd (a.fdiv 16) 15)) + 0) 15) + 6) 15) 4).bind fun w16 => F (w16 + (bAnd ((bAnd (((bAnd w 15) + (bAnd a 15)) + (bAnd (pk n v bb true i z c) 1)) 15) + 0) 15)) (bOr (bOr (bOr (bAnd (pk n v bb true i z c) (bNot (bOr (bOr (bOr 1 64) 128) 2))) (bAnd (w13 + (bAnd (((bAnd w 15) + (bAnd a 15)) + (bAnd (pk n v bb true i z c) 1)) 15)) 128)) 1) 64)) ((BOp.ev .shl (bAnd ((bAnd (((bAnd (w.fdiv 16) 15) + (bAnd (a.fdiv 16) 15)) + 0) 15) + 6) 15) 4).bind fun w17 => F (w17 + (bAnd ((bAnd (((bAnd w 15) + (bAnd a 15)) + (bAnd (pk n v bb true i z c) 1)) 15) + 0) 15)) (bOr (bOr (bAnd (pk n v bb true i z c) (bNot (bOr (bOr (bOr 1 64) 128) 2))) (bAnd (w13 + (bAnd (((bAnd w 15) + (bAnd a 15)) + (bAnd (pk n v bb true i z c) 1)) 15)) 128)) 1)))) ((BOp.ev .shl (bAnd (((bAnd (w.fdiv 16) 15) + (bAnd (a.fdiv 16) 15)) + 0) 15) 4).bind fun w18 => cond (w18 + (bAnd (((bAnd w 15) + (bAnd a 15)) + (bAnd (pk n v bb true i z c) 1)) 15) == 0) (cond (bAnd (bAnd (bNot (bXor a w)) (bXor a (w18 + (bAnd (((bAnd w 15) + (bAnd a 15)) + (bAnd (pk n v bb true i z c) 1)) 15)))) 128 != 0) ((BOp.ev .shl (bAnd ((bAnd (((bAnd (w.fdiv 16) 15) + (bAnd (a.fdiv 16) 15)) + 0) 15) + 0) 15) 4).bind fun w19 => F (w19 + (bAnd ((bAnd (((bAnd w 15) + (bAnd a 15)) + (bAnd (pk n v bb true i z c) 1)) 15) + 0) 15)) (bOr (bOr (bAnd (pk n v bb true i z c) (bNot (bOr (bOr (bOr 1 64) 128) 2))) 2) 64)) ((BOp.ev .shl (bAnd ((bAnd (((bAnd (w.fdiv 16) 15) + (bAnd (a.fdiv 16) 15)) + 0) 15) + 0) 15) 4).bind fun w20 => F (w20 + (bAnd ((bAnd (((bAnd w 15) + (bAnd a 15)) + (bAnd (pk n v bb true i z c) 1)) 15) + 0) 15)) (bOr (bAnd (pk n v bb true i z c) (bNot (bOr (bOr (bOr 1 64) 128) 2))) 2))) (cond (bAnd (bAnd (bNot (bXor a w)) (bXor a (w18 + (bAnd (((bAnd w 15) + (bAnd a 15)) + (bAnd (pk n v bb true i z c) 1)) 15)))) 128 != 0) ((BOp.ev .shl (bAnd ((bAnd (((bAnd (w.fdiv 16) 15) + (bAnd (a.fdiv 16) 15)) + 0) 15) + 0) 15) 4).bind fun w21 => F (w21 + (bAnd ((bAnd (((bAnd w 15) + (bAnd a 15)) + (bAnd (pk n v bb true i z c) 1)) 15) + 0) 15)) (bOr (bOr (bAnd (pk n v bb true i z c) (bNot (bOr (bOr (bOr 1 64) 128) 2))) (bAnd (w18 + (bAnd (((bAnd w 15) + (bAnd a 15)) + (bAnd (pk n v bb true i z c) 1)) 15)) 128)) 64)) ((BOp.ev .shl (bAnd ((bAnd (((bAnd (w.fdiv 16) 15) + (bAnd (a.fdiv 16) 15)) + 0) 15) + 0) 15) 4).bind fun w22 => F (w22 + (bAnd ((bAnd (((bAnd w 15) + (bAnd a 15)) + (bAnd (pk n v bb true i z c) 1)) 15) + 0) 15)) (bOr (bAnd (pk n v bb true i z c) (bNot (bOr (bOr (bOr 1 64) 128) 2))) (bAnd (w18 + (bAnd (((bAnd w 15) + (bAnd a 15)) + (bAnd (pk n v bb true i z c) 1)) 15)) 128))))))) D = F (enc (r % 100)) (pk (decide (128 ≤ u)) (bAnd (bAnd (bNot (bXor a w)) (bXor a u)) 128 != 0) bb true i (decide (u = 0)) (decide (100 ≤ r))) := by
  have xa := bcd b1 b2 ha
  have xw := bcd b3 b4 hw
  have eX : (bAnd w 15 + bAnd a 15) + bAnd (pk n v bb true i z c) 1 = ql + pl + cond c 1 0 := by rw [pk_C, and_15 xw.1.1, and_15 xa.1.1, xw.2.1, xa.2.1]
  have eY : bAnd (w.fdiv 16) 15 + bAnd (a.fdiv 16) 15 = qh + ph := by rw [oct_hi xw.1, oct_hi xa.1, xw.2.2, xa.2.2]
  have s1 := sumsA b1 b2 b3 b4 c01 (k := 1) ⟨by decide, by decide⟩ eX eY hr
  have s0 := sumsA b1 b2 b3 b4 c01 (k := 0) ⟨by decide, by decide⟩ eX eY hr
  rw [← eX, ← eY] at hu
  have u1 : decide ((bAnd w 15 + bAnd a 15) + bAnd (pk n v bb true i z c) 1 > 9) = true → _ := fun h => (hu.trans (congrArg (fun x => x * 16 + _) (if_pos (of_decide_eq_true h)))).symm
  have u0 : decide ((bAnd w 15 + bAnd a 15) + bAnd (pk n v bb true i z c) 1 > 9) = false → _ := fun h => (hu.trans (congrArg (fun x => x * 16 + _) (if_neg (of_decide_eq_false h)))).symm
  exact cond_t d_on (two (fun h1 h2 => brA_c s1.1 s1.2.1 h1 h2 s1.2.2 (u1 h1) rfl (by decide) (pk_cvnz ..)) (fun h1 h2 => brA_n s1.1 s1.2.1 h1 h2 s1.2.2 (u1 h1) rfl (by decide) (pk_cvnz ..)) (fun h1 h2 => brA_c s0.1 s0.2.1 h1 h2 s0.2.2 (u0 h1) rfl (by decide) (pk_cvnz ..)) (fun h1 h2 => brA_n s0.1 s0.2.1 h1 h2 s0.2.2 (u0 h1) rfl (by decide) (pk_cvnz ..)))
theorem stab : ∀ (x : Fin 20) (y : Fin 19), (((16 * ((y.val : Int) + 6) + ((x.val : Int) + 6)) % 256 + cond (decide ((y.val : Int) + 6 + cond (decide ((x.val : Int) + 6 ≤ 15)) 0 1 ≤ 15)) 160 0) / 16) % 16 * 16 + ((16 * ((y.val : Int) + 6) + ((x.val : Int) + 6)) % 256 + cond (decide ((x.val : Int) + 6 ≤ 15)) 10 0) % 16 = enc ((10 * ((y.val : Int) + 6) + ((x.val : Int) + 6) - 66) % 100) ∧ decide (16 * ((y.val : Int) + 6) + ((x.val : Int) + 6) > 255) = decide (100 ≤ 10 * ((y.val : Int) + 6) + ((x.val : Int) + 6) - 66) := by decide +kernel
theorem digS {X Y r : Int} {b1 b2 : Bool} {k : Int} (hX : 0 ≤ X - 6 ∧ X - 6 < 20) (hY : 0 ≤ Y - 6 ∧ Y - 6 < 19) (h1 : decide (X ≤ 15) = b1) (hk : cond b1 0 1 = k) (h2 : decide (Y + k ≤ 15) = b2) (hr : r = 10 * Y + X - 66) : (((16 * Y + X) % 256 + cond b2 160 0) / 16) % 16 * 16 + ((16 * Y + X) % 256 + cond b1 10 0) % 16 = enc (r % 100) ∧ decide (16 * Y + X > 255) = decide (100 ≤ r) := by
  have h := stab ⟨(X - 6).toNat, by lia⟩ ⟨(Y - 6).toNat, by lia⟩
  dsimp only at h
  rw [Int.toNat_of_nonneg hX.1, Int.toNat_of_nonneg hY.1, Int.sub_add_cancel, Int.sub_add_cancel] at h
  subst h1 hk h2 hr
  exact h
theorem shlS {U k : Int} (h : 0 ≤ U) (hk : 0 ≤ k) : BOp.ev .shl (bAnd ((U + k).fdiv 16) 15) 4 = some ((U + k) / 16 % 16 * 16) := by
  rw [Int.fdiv_eq_ediv_of_nonneg _ (by decide)]; exact shl15 (Int.ediv_nonneg (Int.add_nonneg h hk) (by decide))
theorem brS {F : Int → Int → Option γ} {S Q h k : Int} (hS : 0 ≤ S) (hu : S % 256 = u) (h0 : 0 ≤ h) (k0 : 0 ≤ k) (hv : (u + h) / 16 % 16 * 16 + (u + k) % 16 = enc (r % 100)) (hc : decide (S > 255) = decide (100 ≤ r)) (hq : Q = pk false false bb true i false false) :
    cond (decide (S > 255)) (cond (bAnd S 255 == 0) (cond (bAnd (bAnd (bXor a w) (bXor a (bAnd S 255))) 128 != 0) ((BOp.ev .shl (bAnd ((bAnd S 255 + h).fdiv 16) 15) 4).bind fun x => F (x + bAnd (bAnd S 255 + k) 15) (bOr (bOr (bOr Q 2) 1) 64)) ((BOp.ev .shl (bAnd ((bAnd S 255 + h).fdiv 16) 15) 4).bind fun x => F (x + bAnd (bAnd S 255 + k) 15) (bOr (bOr Q 2) 1)))
      (cond (bAnd (bAnd (bXor a w) (bXor a (bAnd S 255))) 128 != 0) ((BOp.ev .shl (bAnd ((bAnd S 255 + h).fdiv 16) 15) 4).bind fun x => F (x + bAnd (bAnd S 255 + k) 15) (bOr (bOr (bOr Q (bAnd (bAnd S 255) 128)) 1) 64)) ((BOp.ev .shl (bAnd ((bAnd S 255 + h).fdiv 16) 15) 4).bind fun x => F (x + bAnd (bAnd S 255 + k) 15) (bOr (bOr Q (bAnd (bAnd S 255) 128)) 1))))
      (cond (bAnd S 255 == 0) (cond (bAnd (bAnd (bXor a w) (bXor a (bAnd S 255))) 128 != 0) ((BOp.ev .shl (bAnd ((bAnd S 255 + h).fdiv 16) 15) 4).bind fun x => F (x + bAnd (bAnd S 255 + k) 15) (bOr (bOr Q 2) 64)) ((BOp.ev .shl (bAnd ((bAnd S 255 + h).fdiv 16) 15) 4).bind fun x => F (x + bAnd (bAnd S 255 + k) 15) (bOr Q 2)))
      (cond (bAnd (bAnd (bXor a w) (bXor a (bAnd S 255))) 128 != 0) ((BOp.ev .shl (bAnd ((bAnd S 255 + h).fdiv 16) 15) 4).bind fun x => F (x + bAnd (bAnd S 255 + k) 15) (bOr (bOr Q (bAnd (bAnd S 255) 128)) 64)) ((BOp.ev .shl (bAnd ((bAnd S 255 + h).fdiv 16) 15) 4).bind fun x => F (x + bAnd (bAnd S 255 + k) 15) (bOr Q (bAnd (bAnd S 255) 128))))) =
    F (enc (r % 100)) (pk (decide (128 ≤ u)) (bAnd (bAnd (bXor a w) (bXor a u)) 128 != 0) bb true i (decide (u = 0)) (decide (100 ≤ r))) := by
  have eU : bAnd S 255 = u := (and_255 hS).trans hu
  generalize bAnd S 255 = U at eU ⊢
  have oU : Oct u := hu ▸ ⟨Int.emod_nonneg _ (by decide), Int.emod_lt_of_pos _ (by decide)⟩
  subst eU
  have hL : bAnd (U + k) 15 = (U + k) % 16 := and_15 (Int.add_nonneg oU.1 k0)
  rw [← hc]
  cases decide (S > 255)
  · exact (quad_n (shlS oU.1 h0) oU hq).trans (by rw [hL, hv])
  · exact (quad_c (shlS oU.1 h0) oU hq).trans (by rw [hL, hv])
theorem sumsS {X Y C S : Int} (b1 : 0 ≤ ph ∧ ph ≤ 9) (b2 : 0 ≤ pl ∧ pl ≤ 9) (b3 : 0 ≤ qh ∧ qh ≤ 9) (b4 : 0 ≤ ql ∧ ql ≤ 9) (c0 : 0 ≤ C ∧ C ≤ 1) (ha : a = 16 * ph + pl) (hw : w = 16 * qh + ql) (eX : X = pl + (15 - ql) + C) (eY : Y = ph + (15 - qh)) (eS : S = a + (255 - w) + C) (hr : r = 10 * ph + pl + (99 - (10 * qh + ql)) + C) : (0 ≤ X - 6 ∧ X - 6 < 20) ∧ (0 ≤ Y - 6 ∧ Y - 6 < 19) ∧ r = 10 * Y + X - 66 ∧ 16 * Y + X = S ∧ 0 ≤ S := ⟨⟨by lia, by lia⟩, ⟨by lia, by lia⟩, by lia, by lia, by lia⟩
theorem fl_SBCD (F : Int → Int → Option γ) (D : Option γ) (b1 : 0 ≤ ph ∧ ph ≤ 9) (b2 : 0 ≤ pl ∧ pl ≤ 9) (b3 : 0 ≤ qh ∧ qh ≤ 9) (b4 : 0 ≤ ql ∧ ql ≤ 9) (ha : a = 16 * ph + pl) (hw : w = 16 * qh + ql) (hr : r = 10 * ph + pl + (99 - (10 * qh + ql)) + cond c 1 0)
    (hu : u = (a + (255 - w) + cond c 1 0) % 256) :
    cond (bAnd (pk n v bb true i z c) 8 != 0) (cond (decide (((bAnd a 15) + (bAnd (bNot w) 15)) + (bAnd (pk n v bb true i z c) 1) ≤ 15)) (cond (decide (((bAnd (a.fdiv 16) 15) + (bAnd ((bNot w).fdiv 16) 15)) + 0 ≤ 15)) (cond (decide ((a + (bAnd (bNot w) 255)) + (bAnd (pk n v bb true i z c) 1) > 255)) (cond (bAnd ((a + (bAnd (bNot w) 255)) + (bAnd (pk n v bb true i z c) 1)) 255 == 0) (cond (bAnd (bAnd (bXor a w) (bXor a (bAnd ((a + (bAnd (bNot w) 255)) + (bAnd (pk n v bb true i z c) 1)) 255))) 128 != 0) ((BOp.ev .shl (bAnd (((bAnd ((a + (bAnd (bNot w) 255)) + (bAnd (pk n v bb true i z c) 1)) 255) + 160).fdiv 16) 15) 4).bind fun w3 => F (w3 + (bAnd ((bAnd ((a + (bAnd (bNot w) 255)) + (bAnd (pk n v bb true i z c) 1)) 255) + 10) 15)) (bOr (bOr (bOr (bAnd (pk n v bb true i z c) (bNot (bOr (bOr (bOr 1 2) 128) 64))) 2) 1) 64)) ((BOp.ev .shl (bAnd (((bAnd ((a + (bAnd (bNot w) 255)) + (bAnd (pk n v bb true i z c) 1)) 255) + 160).fdiv 16) 15) 4).bind fun w4 => F (w4 + (bAnd ((bAnd ((a + (bAnd (bNot w) 255)) + (bAnd (pk n v bb true i z c) 1)) 255) + 10) 15)) (bOr (bOr (bAnd (pk n v bb true i z c) (bNot (bOr (bOr (bOr 1 2) 128) 64))) 2) 1))) (cond (bAnd (bAnd (bXor a w) (bXor a (bAnd ((a + (bAnd (bNot w) 255)) + (bAnd (pk n v bb true i z c) 1)) 255))) 128 != 0) ((BOp.ev .shl (bAnd (((bAnd ((a + (bAnd (bNot w) 255)) + (bAnd (pk n v bb true i z c) 1)) 255) + 160).fdiv 16) 15) 4).bind fun w5 => F (w5 + (bAnd ((bAnd ((a + (bAnd (bNot w) 255)) + (bAnd (pk n v bb true i z c) 1)) 255) + 10) 15)) (bOr (bOr (bOr (bAnd (pk n v bb true i z c) (bNot (bOr (bOr (bOr 1 2) 128) 64))) (bAnd (bAnd ((a + (bAnd (bNot w) 255)) + (bAnd (pk n v bb true i z c) 1)) 255) 128)) 1) 64)) ((BOp.ev .shl (bAnd (((bAnd ((a + (bAnd (bNot w) 255)) + (bAnd (pk n v bb true i z c) 1)) 255) + 160).fdiv 16) 15) 4).bind fun w6 => F (w6 + (bAnd ((bAnd ((a + (bAnd (bNot w) 255)) + (bAnd (pk n v bb true i z c) 1)) 255) + 10) 15)) (bOr (bOr (bAnd (pk n v bb true i z c) (bNot (bOr (bOr (bOr 1 2) 128) 64))) (bAnd (bAnd ((a + (bAnd (bNot w) 255)) + (bAnd (pk n v bb true i z c) 1)) 255) 128)) 1)))) (cond (bAnd ((a + (bAnd (bNot w) 255)) + (bAnd (pk n v bb true i z c) 1)) 255 == 0) (cond (bAnd (bAnd (bXor a w) (bXor a (bAnd ((a + (bAnd (bNot w) 255)) + (bAnd (pk n v bb true i z c) 1)) 255))) 128 != 0) ((BOp.ev .shl (bAnd (((bAnd ((a + (bAnd (bNot w) 255)) + (bAnd (pk n v bb true i z c) 1)) 255) + 160).fdiv 16) 15) 4).bind fun w7 => F (w7 + (bAnd ((bAnd ((a + (bAnd (bNot w) 255)) + (bAnd (pk n v bb true i z c) 1)) 255) + 10) 15)) (bOr (bOr (bAnd (pk n v bb true i z c) (bNot (bOr (bOr (bOr 1 2) 128) 64))) 2) 64)) ((BOp.ev .shl (bAnd (((bAnd ((a + (bAnd (bNot w) 255)) + (bAnd (pk n v bb true i z c) 1)) 255) + 160).fdiv 16) 15) 4).bind fun w8 => F (w8 + (bAnd ((bAnd ((a + (bAnd (bNot w) 255)) + (bAnd (pk n v bb true i z c) 1)) 255) + 10) 15)) (bOr (bAnd (pk n v bb true i z c) (bNot (bOr (bOr (bOr 1 2) 128) 64))) 2))) (cond (bAnd (bAnd (bXor a w) (bXor a (bAnd ((a + (bAnd (bNot w) 255)) + (bAnd (pk n v bb true i z c) 1)) 255))) 128 != 0) ((BOp.ev .shl (bAnd (((bAnd ((a + (bAnd (bNot w) 255)) + (bAnd (pk n v bb true i z c) 1)) 255) + 160).fdiv 16) 15) 4).bind fun w9 => F (w9 + (bAnd ((bAnd ((a + (bAnd (bNot w) 255)) + (bAnd (pk n v bb true i z c) 1)) 255) + 10) 15)) (bOr (bOr (bAnd (pk n v bb true i z c) (bNot (bOr (bOr (bOr 1 2) 128) 64))) (bAnd (bAnd ((a + (bAnd (bNot w) 255)) + (bAnd (pk n v bb true i z c) 1)) 255) 128)) 64)) ((BOp.ev .shl (bAnd (((bAnd ((a + (bAnd (bNot w) 255)) + (bAnd (pk n v bb true i z c) 1)) 255) + 160).fdiv 16) 15) 4).bind fun w10 => F (w10 + (bAnd ((bAnd ((a + (bAnd (bNot w) 255)) + (bAnd (pk n v bb true i z c) 1)) 255) + 10) 15)) (bOr (bAnd (pk n v bb true i z c) (bNot (bOr (bOr (bOr 1 2) 128) 64))) (bAnd (bAnd ((a + (bAnd (bNot w) 255)) + (bAnd (pk n v bb true i z c) 1)) 255) 128)))))) (cond (decide ((a + (bAnd (bNot w) 255)) + (bAnd (pk n v bb true i z c) 1) > 255)) (cond (bAnd ((a + (bAnd (bNot w) 255)) + (bAnd (pk n v bb true i z c) 1)) 255 == 0) (cond (bAnd (bAnd (bXor a w) (bXor a (bAnd ((a + (bAnd (bNot w) 255)) + (bAnd (pk n v bb true i z c) 1)) 255))) 128 != 0) ((BOp.ev .shl (bAnd (((bAnd ((a + (bAnd (bNot w) 255)) + (bAnd (pk n v bb true i z c) 1)) 255) + 0).fdiv 16) 15) 4).bind fun w11 => F (w11 + (bAnd ((bAnd ((a + (bAnd (bNot w) 255)) + (bAnd (pk n v bb true i z c) 1)) 255) + 10) 15)) (bOr (bOr (bOr (bAnd (pk n v bb true i z c) (bNot (bOr (bOr (bOr 1 2) 128) 64))) 2) 1) 64)) ((BOp.ev .shl (bAnd (((bAnd ((a + (bAnd (bNot w) 255)) + (bAnd (pk n v bb true i z c) 1)) 255) + 0).fdiv 16) 15) 4).bind fun w12 => F (w12 + (bAnd ((bAnd ((a + (bAnd (bNot w) 255)) + (bAnd (pk n v bb true i z c) 1)) 255) + 10) 15)) (bOr (bOr (bAnd (pk n v bb true i z c) (bNot (bOr (bOr (bOr 1 2) 128) 64))) 2) 1))) (cond (bAnd (bAnd (bXor a w) (bXor a (bAnd ((a + (bAnd (bNot w) 255)) + (bAnd (pk n v bb true i z c) 1)) 255))) 128 != 0) ((BOp.ev .shl (bAnd (((bAnd ((a + (bAnd (bNot w) 255)) + (bAnd (pk n v bb true i z c) 1)) 255) + 0).fdiv 16) 15) 4).bind fun w13 => F (w13 + (bAnd ((bAnd ((a + (bAnd (bNot w) 255)) + (bAnd (pk n v bb true i z c) 1)) 255) + 10) 15)) (bOr (bOr (bOr (bAnd (pk n v bb true i z c) (bNot (bOr (bOr (bOr 1 2) 128) 64))) (bAnd (bAnd ((a + (bAnd (bNot w) 255)) + (bAnd (pk n v bb true i z c) 1)) 255) 128)) 1) 64)) ((BOp.ev .shl (bAnd (((bAnd ((a + (bAnd (bNot w) 255)) + (bAnd (pk n v bb true i z c) 1)) 255) + 0).fdiv 16) 15) 4).bind fun w14 => F (w14 + (bAnd ((bAnd ((a + (bAnd (bNot w) 255)) + (bAnd (pk n v bb true i z c) 1)) 255) + 10) 15)) (bOr (bOr (bAnd (pk n v bb true i z c) (bNot (bOr (bOr (bOr 1 2) 128) 64))) (bAnd (bAnd ((a + (bAnd (bNot w) 255)) + (bAnd (pk n v bb true i z c) 1)) 255) 128)) 1)))) (cond (bAnd ((a + (bAnd (bNot w) 255)) + (bAnd (pk n v bb true i z c) 1)) 255 == 0) (cond (bAnd (bAnd (bXor a w) (bXor a (bAnd ((a + (bAnd (bNot w) 255)) + (bAnd (pk n v bb true i z c) 1)) 255))) 128 != 0) ((BOp.ev .shl (bAnd (((bAnd ((a + (bAnd (bNot w) 255)) + (bAnd (pk n v bb true i z c) 1)) 255) + 0).fdiv 16) 15) 4).bind fun w15 => F (w15 + (bAnd ((bAnd ((a + (bAnd (bNot w) 255)) + (bAnd (pk n v bb true i z c) 1)) 255) + 10) 15)) (bOr (bOr (bAnd (pk n v bb true i z c) (bNot (bOr (bOr (bOr 1 2) 128) 64))) 2) 64)) ((BOp.ev .shl (bAnd (((bAnd ((a + (bAnd (bNot w) 255)) + (bAnd (pk n v bb true i z c) 1)) 255) + 0).fdiv 16) 15) 4).bind fun w16 => F (w16 + (bAnd ((bAnd ((a + (bAnd (bNot w) 255)) + (bAnd (pk n v bb true i z c) 1)) 255) + 10) 15)) (bOr (bAnd (pk n v bb true i z c) (bNot (bOr (bOr (bOr 1 2) 128) 64))) 2))) (cond (bAnd (bAnd (bXor a w) (bXor a (bAnd ((a + (bAnd (bNot w) 255)) + (bAnd (pk n v bb true i z c) 1)) 255))) 128 != 0) ((BOp.ev .shl (bAnd (((bAnd ((a + (bAnd (bNot w) 255)) + (bAnd (pk n v bb true i z c) 1)) 255) + 0).fdiv 16) 15) 4).bind fun w17 => F (w17 + (bAnd ((bAnd ((a + (bAnd (bNot w) 255)) + (bAnd (pk n v bb true i z c) 1)) 255) + 10) 15)) (bOr (bOr (bAnd (pk n v bb true i z c) (bNot (bOr (bOr (bOr 1 2) 128) 64))) (bAnd (bAnd ((a + (bAnd (bNot w) 255)) + (bAnd (pk n v bb true i z c) 1)) 255) 128)) 64)) ((BOp.ev .shl (bAnd (((bAnd ((a + (bAnd (bNot w) 255)) + (bAnd (pk n v bb true i z c) 1)) 255) + 0).fdiv 16) 15) 4).bind fun w18 => F (w18 + (bAnd ((bAnd ((a + (bAnd (bNot w) 255)) + (bAnd (pk n v bb true i z c) 1)) 255) + 10) 15)) (bOr (bAnd (pk n v bb true i z c) (bNot (bOr (bOr (bOr 1 2) 128) 64))) (bAnd (bAnd ((a + (bAnd (bNot w) 255)) + (bAnd (pk n v bb true i z c) 1)) 255) 128))))))) (cond (decide (((bAnd (a.fdiv 16) 15) + (bAnd ((bNot w).fdiv 16) 15)) + 1 ≤ 15)) (cond (decide ((a + (bAnd (bNot w) 255)) + (bAnd (pk n v bb true i z c) 1) > 255)) (cond (bAnd ((a + (bAnd (bNot w) 255)) + (bAnd (pk n v bb true i z c) 1)) 255 == 0) (cond (bAnd (bAnd (bXor a w) (bXor a (bAnd ((a + (bAnd (bNot w) 255)) + (bAnd (pk n v bb true i z c) 1)) 255))) 128 != 0) ((BOp.ev .shl (bAnd (((bAnd ((a + (bAnd (bNot w) 255)) + (bAnd (pk n v bb true i z c) 1)) 255) + 160).fdiv 16) 15) 4).bind fun w19 => F (w19 + (bAnd ((bAnd ((a + (bAnd (bNot w) 255)) + (bAnd (pk n v bb true i z c) 1)) 255) + 0) 15)) (bOr (bOr (bOr (bAnd (pk n v bb true i z c) (bNot (bOr (bOr (bOr 1 2) 128) 64))) 2) 1) 64)) ((BOp.ev .shl (bAnd (((bAnd ((a + (bAnd (bNot w) 255)) + (bAnd (pk n v bb true i z c) 1)) 255) + 160).fdiv 16) 15) 4).bind fun w20 => F (w20 + (bAnd ((bAnd ((a + (bAnd (bNot w) 255)) + (bAnd (pk n v bb true i z c) 1)) 255) + 0) 15)) (bOr (bOr (bAnd (pk n v bb true i z c) (bNot (bOr (bOr (bOr 1 2) 128) 64))) 2) 1))) (cond (bAnd (bAnd (bXor a w) (bXor a (bAnd ((a + (bAnd (bNot w) 255)) + (bAnd (pk n v bb true i z c) 1)) 255))) 128 != 0) ((BOp.ev .shl (bAnd (((bAnd ((a + (bAnd (bNot w) 255)) + (bAnd (pk n v bb true i z c) 1)) 255) + 160).fdiv 16) 15) 4).bind fun w21 => F (w21 + (bAnd ((bAnd ((a + (bAnd (bNot w) 255)) + (bAnd (pk n v bb true i z c) 1)) 255) + 0) 15)) (bOr (bOr (bOr (bAnd (pk n v bb true i z c) (bNot (bOr (bOr (bOr 1 2) 128) 64))) (bAnd (bAnd ((a + (bAnd (bNot w) 255)) + (bAnd (pk n v bb true i z c) 1)) 255) 128)) 1) 64)) ((BOp.ev .shl (bAnd (((bAnd ((a + (bAnd (bNot w) 255)) + (bAnd (pk n v bb true i z c) 1)) 255) + 160).fdiv 16) 15) 4).bind fun w22 => F (w22 + (bAnd ((bAnd ((a + (bAnd (bNot w) 255)) + (bAnd (pk n v bb true i z c) 1)) 255) + 0) 15)) (bOr (bOr (bAnd (pk n v bb true i z c) (bNot (bOr (bOr (bOr 1 2) 128) 64))) (bAnd (bAnd ((a + (bAnd (bNot w) 255)) + (bAnd (pk n v bb true i z c) 1)) 255) 128)) 1)))) (cond (bAnd ((a + (bAnd (bNot w) 255)) + (bAnd (pk n v bb true i z c) 1)) 255 == 0) (cond (bAnd (bAnd (bXor a w) (bXor a (bAnd ((a + (bAnd (bNot w) 255)) + (bAnd (pk n v bb true i z c) 1)) 255))) 128 != 0) ((BOp.ev .shl (bAnd (((bAnd ((a + (bAnd (bNot w) 255)) + (bAnd (pk n v bb true i z c) 1)) 255) + 160).fdiv 16) 15) 4).bind fun w23 => F (w23 + (bAnd ((bAnd ((a + (bAnd (bNot w) 255)) + (bAnd (pk n v bb true i z c) 1)) 255) + 0) 15)) (bOr (bOr (bAnd (pk n v bb true i z c) (bNot (bOr (bOr (bOr 1 2) 128) 64))) 2) 64)) ((BOp.ev .shl (bAnd (((bAnd ((a + (bAnd (bNot w) 255)) + (bAnd (pk n v bb true i z c) 1)) 255) + 160).fdiv 16) 15) 4).bind fun w24 => F (w24 + (bAnd ((bAnd ((a + (bAnd (bNot w) 255)) + (bAnd (pk n v bb true i z c) 1)) 255) + 0) 15)) (bOr (bAnd (pk n v bb true i z c) (bNot (bOr (bOr (bOr 1 2) 128) 64))) 2))) (cond (bAnd (bAnd (bXor a w) (bXor a (bAnd ((a + (bAnd (bNot w) 255)) + (bAnd (pk n v bb true i z c) 1)) 255))) 128 != 0) ((BOp.ev .shl (bAnd (((bAnd ((a + (bAnd (bNot w) 255)) + (bAnd (pk n v bb true i z c) 1)) 255) + 160).fdiv 16) 15) 4).bind fun w25 => F (w25 + (bAnd ((bAnd ((a + (bAnd (bNot w) 255)) + (bAnd (pk n v bb true i z c) 1)) 255) + 0) 15)) (bOr (bOr (bAnd (pk n v bb true i z c) (bNot (bOr (bOr (bOr 1 2) 128) 64))) (bAnd (bAnd ((a + (bAnd (bNot w) 255)) + (bAnd (pk n v bb true i z c) 1)) 255) 128)) 64)) ((BOp.ev .shl (bAnd (((bAnd ((a + (bAnd (bNot w) 255)) + (bAnd (pk n v bb true i z c) 1)) 255) + 160).fdiv 16) 15) 4).bind fun w26 => F (w26 + (bAnd ((bAnd ((a + (bAnd (bNot w) 255)) + (bAnd (pk n v bb true i z c) 1)) 255) + 0) 15)) (bOr (bAnd (pk n v bb true i z c) (bNot (bOr (bOr (bOr 1 2) 128) 64))) (bAnd (bAnd ((a + (bAnd (bNot w) 255)) + (bAnd (pk n v bb true i z c) 1)) 255) 128)))))) (cond (decide ((a + (bAnd (bNot w) 255)) + (bAnd (pk n v bb true i z c) 1) > 255)) (cond (bAnd ((a + (bAnd (bNot w) 255)) + (bAnd (pk n v bb true i z c) 1)) 255 == 0) (cond (bAnd (bAnd (bXor a w) (bXor a (bAnd ((a + (bAnd (bNot w) 255)) + (bAnd (pk n v bb true i z c) 1)) 255))) 128 != 0) ((BOp.ev .shl (bAnd (((bAnd ((a + (bAnd (bNot w) 255)) + (bAnd (pk n v bb true i z c) 1)) 255) + 0).fdiv 16) 15) 4).bind fun w27 => F (w27 + (bAnd ((bAnd ((a + (bAnd (bNot w) 255)) + (bAnd (pk n v bb true i z c) 1)) 255) + 0) 15)) (bOr (bOr (bOr (bAnd (pk n v bb true i z c) (bNot (bOr (bOr (bOr 1 2) 128) 64))) 2) 1) 64)) ((BOp.ev .shl (bAnd (((bAnd ((a + (bAnd (bNot w) 255)) + (bAnd (pk n v bb true i z c) 1)) 255) + 0).fdiv 16) 15) 4).bind fun w28 => F (w28 + (bAnd ((bAnd ((a + (bAnd (bNot w) 255)) + (bAnd (pk n v bb true i z c) 1)) 255) + 0) 15)) (bOr (bOr (bAnd (pk n v bb true i z c) (bNot (bOr (bOr (bOr 1 2) 128) 64))) 2) 1))) (cond (bAnd (bAnd (bXor a w) (bXor a (bAnd ((a + (bAnd (bNot w) 255)) + (bAnd (pk n v bb true i z c) 1)) 255))) 128 != 0) ((BOp.ev .shl (bAnd (((bAnd ((a + (bAnd (bNot w) 255)) + (bAnd (pk n v bb true i z c) 1)) 255) + 0).fdiv 16) 15) 4).bind fun w29 => F (w29 + (bAnd ((bAnd ((a + (bAnd (bNot w) 255)) + (bAnd (pk n v bb true i z c) 1)) 255) + 0) 15)) (bOr (bOr (bOr (bAnd (pk n v bb true i z c) (bNot (bOr (bOr (bOr 1 2) 128) 64))) (bAnd (bAnd ((a + (bAnd (bNot w) 255)) + (bAnd (pk n v bb true i z c) 1)) 255) 128)) 1) 64)) ((BOp.ev .shl (bAnd (((bAnd ((a + (bAnd (bNot w) 255)) + (bAnd (pk n v bb true i z c) 1)) 255) + 0).fdiv 16) 15) 4).bind fun w30 => F (w30 + (bAnd ((bAnd ((a + (bAnd (bNot w) 255)) + (bAnd (pk n v bb true i z c) 1)) 255) + 0) 15)) (bOr (bOr (bAnd (pk n v bb true i z c) (bNot (bOr (bOr (bOr 1 2) 128) 64))) (bAnd (bAnd ((a + (bAnd (bNot w) 255)) + (bAnd (pk n v bb true i z c) 1)) 255) 128)) 1)))) (cond (bAnd ((a + (bAnd (bNot w) 255)) + (bAnd (pk n v bb true i z c) 1)) 255 == 0) (cond (bAnd (bAnd (bXor a w) (bXor a (bAnd ((a + (bAnd (bNot w) 255)) + (bAnd (pk n v bb true i z c) 1)) 255))) 128 != 0) ((BOp.ev .shl (bAnd (((bAnd ((a + (bAnd (bNot w) 255)) + (bAnd (pk n v bb true i z c) 1)) 255) + 0).fdiv 16) 15) 4).bind fun w31 => F (w31 + (bAnd ((bAnd ((a + (bAnd (bNot w) 255)) + (bAnd (pk n v bb true i z c) 1)) 255) + 0) 15)) (bOr (bOr (bAnd (pk n v bb true i z c) (bNot (bOr (bOr (bOr 1 2) 128) 64))) 2) 64)) ((BOp.ev .shl (bAnd (((bAnd ((a + (bAnd (bNot w) 255)) + (bAnd (pk n v bb true i z c) 1)) 255) + 0).fdiv 16) 15) 4).bind fun w32 => F (w32 + (bAnd ((bAnd ((a + (bAnd (bNot w) 255)) + (bAnd (pk n v bb true i z c) 1)) 255) + 0) 15)) (bOr (bAnd (pk n v bb true i z c) (bNot (bOr (bOr (bOr 1 2) 128) 64))) 2))) (cond (bAnd (bAnd (bXor a w) (bXor a (bAnd ((a + (bAnd (bNot w) 255)) + (bAnd (pk n v bb true i z c) 1)) 255))) 128 != 0) ((BOp.ev .shl (bAnd (((bAnd ((a + (bAnd (bNot w) 255)) + (bAnd (pk n v bb true i z c) 1)) 255) + 0).fdiv 16) 15) 4).bind fun w33 => F (w33 + (bAnd ((bAnd ((a + (bAnd (bNot w) 255)) + (bAnd (pk n v bb true i z c) 1)) 255) + 0) 15)) (bOr (bOr (bAnd (pk n v bb true i z c) (bNot (bOr (bOr (bOr 1 2) 128) 64))) (bAnd (bAnd ((a + (bAnd (bNot w) 255)) + (bAnd (pk n v bb true i z c) 1)) 255) 128)) 64)) ((BOp.ev .shl (bAnd (((bAnd ((a + (bAnd (bNot w) 255)) + (bAnd (pk n v bb true i z c) 1)) 255) + 0).fdiv 16) 15) 4).bind fun w34 => F (w34 + (bAnd ((bAnd ((a + (bAnd (bNot w) 255)) + (bAnd (pk n v bb true i z c) 1)) 255) + 0) 15)) (bOr (bAnd (pk n v bb true i z c) (bNot (bOr (bOr (bOr 1 2) 128) 64))) (bAnd (bAnd ((a + (bAnd (bNot w) 255)) + (bAnd (pk n v bb true i z c) 1)) 255) 128)))))))) D = F (enc (r % 100)) (pk (decide (128 ≤ u)) (bAnd (bAnd (bXor a w) (bXor a u)) 128 != 0) bb true i (decide (u = 0)) (decide (100 ≤ r))) := by
  have xa := bcd b1 b2 ha
  have xw := bcd b3 b4 hw
  have eX : (bAnd a 15 + bAnd (bNot w) 15) + bAnd (pk n v bb true i z c) 1 = pl + (15 - ql) + cond c 1 0 := by rw [pk_C, and_15 xa.1.1, oct_n15 xw.1, xw.2.1, xa.2.1]
  have eY : bAnd (a.fdiv 16) 15 + bAnd ((bNot w).fdiv 16) 15 = ph + (15 - qh) := by rw [oct_nhi xw.1, oct_hi xa.1, xw.2.2, xa.2.2]
  have eS : (a + bAnd (bNot w) 255) + bAnd (pk n v bb true i z c) 1 = a + (255 - w) + cond c 1 0 := by rw [pk_C, oct_not xw.1]
  have s := sumsS b1 b2 b3 b4 c01 ha hw eX eY eS hr
  rw [← eS] at hu
  have D := fun {b1 b2 : Bool} {k : Int} h1 hk h2 => digS (b1 := b1) (b2 := b2) (k := k) s.1 s.2.1 h1 hk h2 s.2.2.1
  rw [s.2.2.2.1, ← hu] at D
  exact cond_t d_on (two (fun h1 h2 => brS s.2.2.2.2 hu.symm (by decide) (by decide) (D h1 rfl h2).1 (D h1 rfl h2).2 (pk_czNV ..)) (fun h1 h2 => brS s.2.2.2.2 hu.symm (by decide) (by decide) (D h1 rfl h2).1 (D h1 rfl h2).2 (pk_czNV ..)) (fun h1 h2 => brS s.2.2.2.2 hu.symm (by decide) (by decide) (D h1 rfl h2).1 (D h1 rfl h2).2 (pk_czNV ..)) (fun h1 h2 => brS s.2.2.2.2 hu.symm (by decide) (by decide) (D h1 rfl h2).1 (D h1 rfl h2).2 (pk_czNV ..)))
end
end Mine

end
section
open PySem PySem.W PyProof.Rows
set_option maxRecDepth 100000
set_option maxHeartbeats 0
set_option linter.unusedSimpArgs false
set_option linter.unusedVariables false
namespace Mine
theorem bit_tab : ∀ x z a b : Fin 2, (x.val = 1 ↔ ¬ (a.val = 1 ↔ b.val = 1)) → (z.val = 1 ↔ a.val = 1 ∧ b.val = 1) → x.val + 2 * z.val = a.val + b.val := by decide +kernel
theorem bit_sum {x z a b : Nat} (h3 : x % 2 = 1 ↔ ¬ (a % 2 = 1 ↔ b % 2 = 1)) (h4 : z % 2 = 1 ↔ a % 2 = 1 ∧ b % 2 = 1) : x % 2 + 2 * (z % 2) = a % 2 + b % 2 :=
  have l (n : Nat) : n % 2 < 2 := Nat.mod_lt n (by decide)
  bit_tab ⟨_, l x⟩ ⟨_, l z⟩ ⟨_, l a⟩ ⟨_, l b⟩ h3 h4
theorem halves {x z a b : Nat} (h0 : x / 2 + 2 * (z / 2) = a / 2 + b / 2) (h1 : x % 2 + 2 * (z % 2) = a % 2 + b % 2) : x + 2 * z = a + b := by lia
theorem nat_xor (a b : Nat) : (a ^^^ b) + 2 * (a &&& b) = a + b := by
  induction a using Nat.strongRecOn generalizing b with
  | ind a ih =>
    by_cases h : a = 0
    · subst h; rw [Nat.zero_xor, Nat.zero_and, Nat.zero_add]; rfl
    · have h0 := ih (a / 2) (Nat.div_lt_self (Nat.pos_of_ne_zero h) (by decide)) (b / 2)
      rw [← Nat.xor_div_two, ← Nat.and_div_two] at h0
      exact halves h0 (bit_sum Nat.xor_mod_two_eq_one Nat.and_mod_two_eq_one)
theorem bXor_nat {a b : Int} (ha : 0 ≤ a) (hb : 0 ≤ b) : bXor a b = ((a.toNat ^^^ b.toNat : Nat) : Int) := by
  obtain ⟨m, rfl⟩ := Int.eq_ofNat_of_zero_le ha
  obtain ⟨n, rfl⟩ := Int.eq_ofNat_of_zero_le hb
  rw [show bXor (m : Int) (n : Int) = m + n - 2 * bAnd (m : Int) (n : Int) from bitXor_and .., show bAnd (m : Int) (n : Int) = ((m &&& n : Nat) : Int) from bitAnd_pp ha hb]
  have h : (((m ^^^ n) + 2 * (m &&& n) : Nat) : Int) = ((m + n : Nat) : Int) := congrArg _ (nat_xor m n)
  rw [Int.natCast_add, Int.natCast_add] at h
  exact Int.sub_eq_iff_eq_add.mpr h.symm
noncomputable def b7 (z : Int) : Bool := z.toNat.testBit 7
theorem nat_128 (n : Nat) : (n &&& 128 == 0) = !n.testBit 7 := by
  cases h : n.testBit 7
  · refine beq_iff_eq.mpr (Nat.eq_of_testBit_eq fun i => ?_)
    rw [Nat.testBit_and, show (128 : Nat) = 2 ^ 7 from rfl, Nat.testBit_two_pow, Nat.zero_testBit]
    by_cases q : 7 = i
    · subst q; rw [h]; rfl
    · rw [decide_eq_false q, Bool.and_false]
  · refine beq_eq_false_iff_ne.mpr fun e => ?_
    have this : (n &&& 128).testBit 7 = Nat.testBit 0 7 := congrArg (fun k => k.testBit 7) e
    rw [Nat.testBit_and, h] at this
    cases this
theorem bit7 {z : Int} (h : 0 ≤ z) : (bAnd z 128 != 0) = b7 z := by
  obtain ⟨n, rfl⟩ := Int.eq_ofNat_of_zero_le h
  rw [show bAnd (n : Int) 128 = ((n &&& 128 : Nat) : Int) from bitAnd_pp h (by decide)]
  show (!(((n &&& 128 : Nat) : Int) == ((0 : Nat) : Int))) = n.testBit 7
  rw [show (((n &&& 128 : Nat) : Int) == ((0 : Nat) : Int)) = (n &&& 128 == 0) from Bool.eq_iff_iff.mpr (beq_iff_eq.trans (Int.ofNat_inj.trans beq_iff_eq.symm)), nat_128, Bool.not_not]
theorem b7_xor {a b : Int} (ha : 0 ≤ a) (hb : 0 ≤ b) : b7 (bXor a b) = (b7 a != b7 b) := by
  rw [bXor_nat ha hb]; exact Nat.testBit_xor ..
theorem xor_0 {a b : Int} (ha : 0 ≤ a) (hb : 0 ≤ b) : 0 ≤ bXor a b := by rw [bXor_nat ha hb]; exact Int.natCast_nonneg _
theorem b7_and {a b : Int} (ha : 0 ≤ a) (hb : 0 ≤ b) : b7 (bAnd a b) = (b7 a && b7 b) ∧ 0 ≤ bAnd a b := by
  rw [show bAnd a b = ((a.toNat &&& b.toNat : Nat) : Int) from bitAnd_pp ha hb]
  exact ⟨Nat.testBit_and .., Int.natCast_nonneg _⟩
theorem nat_nand (n m : Nat) : n - (n &&& m) = n ^^^ (n &&& m) := by
  have h := nat_xor n (n &&& m)
  rw [← Nat.and_assoc, Nat.and_self] at h
  have := Nat.and_le_left (n := n) (m := m)
  lia
theorem b7_nand {t u : Int} (ht : 0 ≤ t) (hu : 0 ≤ u) : b7 (bAnd (bNot t) u) = (!b7 t && b7 u) ∧ 0 ≤ bAnd (bNot t) u := by
  rw [show bAnd (bNot t) u = bAnd u (bNot t) from bitAnd_comm _ _, show bAnd u (bNot t) = u - bAnd u t from bitAnd_not _ _]
  obtain ⟨m, rfl⟩ := Int.eq_ofNat_of_zero_le ht
  obtain ⟨n, rfl⟩ := Int.eq_ofNat_of_zero_le hu
  rw [show bAnd (n : Int) (m : Int) = ((n &&& m : Nat) : Int) from bitAnd_pp hu ht, ← Int.ofNat_sub Nat.and_le_left, nat_nand]
  refine ⟨?_, Int.natCast_nonneg _⟩
  show (n ^^^ (n &&& m)).testBit 7 = (!m.testBit 7 && n.testBit 7)
  rw [Nat.testBit_xor, Nat.testBit_and]
  cases n.testBit 7 <;> cases m.testBit 7 <;> rfl
noncomputable def sg (x : Int) : Int := if 128 ≤ x then x - 256 else x
noncomputable def out8 (s : Int) : Bool := !(decide (-128 ≤ s) && decide (s < 128))
theorem b7_oct {v : Int} (o : Oct v) : b7 v = decide (128 ≤ v) := oct_ind (P := fun v => b7 v = decide (128 ≤ v)) (by decide +kernel) o
theorem neg_oct {v : Int} (o : Oct v) : decide (128 ≤ 255 - v) = !decide (128 ≤ v) ∧ sg (255 - v) = - sg v - 1 := oct_ind (P := fun v => decide (128 ≤ 255 - v) = (!decide (128 ≤ v)) ∧ sg (255 - v) = - sg v - 1) (by decide +kernel) o
theorem b7_div {r : Int} (h : 0 ≤ r) : b7 r = decide (r / 128 % 2 = 1) := by
  obtain ⟨n, rfl⟩ := Int.eq_ofNat_of_zero_le h
  show n.testBit 7 = _
  rw [Nat.testBit_eq_decide_div_mod_eq]
  exact decide_eq_decide.mpr (by lia)
theorem out_in {s : Int} (h1 : -128 ≤ s) (h2 : s < 128) : out8 s = false := by unfold out8; rw [decide_eq_true h1, decide_eq_true h2]; rfl
theorem out_hi {s : Int} (h1 : -128 ≤ s) : out8 s = decide (128 ≤ s) := by unfold out8; rw [decide_eq_true h1, Bool.true_and, ← decide_not]; exact decide_eq_decide.mpr Int.not_lt
theorem out_lo {s : Int} (h1 : s < 128) : out8 s = decide (s < -128) := by unfold out8; rw [decide_eq_true h1, Bool.and_true, ← decide_not]; exact decide_eq_decide.mpr Int.not_le
theorem ov_core {a w r C : Int} (oa : Oct a) (ow : Oct w) (hr : r = w + a + C) (c0 : 0 ≤ C ∧ C ≤ 1) : (!(decide (128 ≤ a) != decide (128 ≤ w)) && (decide (128 ≤ a) != decide (r / 128 % 2 = 1))) = out8 (sg a + sg w + C) := by
  obtain ⟨a0, a1⟩ := oa
  obtain ⟨w0, w1⟩ := ow
  unfold sg
  by_cases q1 : 128 ≤ a <;> by_cases q2 : 128 ≤ w
  · rw [decide_eq_true q1, decide_eq_true q2, if_pos q1, if_pos q2, out_lo (by lia)]
    show (!decide _) = _
    rw [← decide_not]; exact decide_eq_decide.mpr (by lia)
  · rw [decide_eq_true q1, decide_eq_false q2, if_pos q1, if_neg q2, out_in (by lia) (by lia)]; rfl
  · rw [decide_eq_false q1, decide_eq_true q2, if_neg q1, if_pos q2, out_in (by lia) (by lia)]; rfl
  · rw [decide_eq_false q1, decide_eq_false q2, if_neg q1, if_neg q2, out_hi (by lia)]
    show (false != decide _) = _
    rw [Bool.false_bne]; exact decide_eq_decide.mpr (by lia)
theorem ov_add {a w r C : Int} (oa : Oct a) (ow : Oct w) (hr : r = w + a + C) (c0 : 0 ≤ C ∧ C ≤ 1) : (bAnd (bAnd (bNot (bXor a w)) (bXor a r)) 128 != 0) = out8 (sg a + sg w + C) := by
  have r0 : 0 ≤ r := hr ▸ Int.add_nonneg (Int.add_nonneg ow.1 oa.1) c0.1
  have h := b7_nand (xor_0 oa.1 ow.1) (xor_0 oa.1 r0)
  rw [bit7 h.2, h.1, b7_xor oa.1 ow.1, b7_xor oa.1 r0, b7_oct oa, b7_oct ow, b7_div r0]
  exact ov_core oa ow hr c0
theorem ov_sub {a w r C : Int} (oa : Oct a) (ow : Oct w) (hr : r = a + (255 - w) + C) (c0 : 0 ≤ C ∧ C ≤ 1) : (bAnd (bAnd (bXor a w) (bXor a r)) 128 != 0) = out8 (sg a - sg w - (1 - C)) := by
  have ow' : Oct (255 - w) := ⟨Int.sub_nonneg_of_le (Int.le_of_lt_add_one ow.2), by have := ow.1; lia⟩
  have r0 : 0 ≤ r := hr ▸ Int.add_nonneg (Int.add_nonneg oa.1 ow'.1) c0.1
  have h := b7_and (xor_0 oa.1 ow.1) (xor_0 oa.1 r0)
  have n := neg_oct ow
  rw [bit7 h.2, h.1, b7_xor oa.1 ow.1, b7_xor oa.1 r0, b7_oct oa, b7_oct ow, b7_div r0]
  have k := ov_core oa ow' (hr.trans (by rw [Int.add_comm a])) c0
  rw [n.1, n.2, show sg a + (-sg w - 1) + C = sg a - sg w - (1 - C) by lia] at k
  rw [← k]
  cases decide (128 ≤ a) <;> cases decide (128 ≤ w) <;> rfl
end Mine

end
section
open PySem PySem.W PyProof.Rows
set_option maxRecDepth 100000
set_option maxHeartbeats 0
set_option linter.unusedSimpArgs false
set_option linter.unusedVariables false
namespace Mine
noncomputable def Bs (ten : Bool) : Int := cond ten 100 256
noncomputable def en (ten : Bool) (x : Int) : Int := cond ten (enc x) x
noncomputable def ci (c : Bool) : Int := cond c 1 0
noncomputable def alu (ten less : Bool) (p q : Int) (c : Bool) : Int := p + cond less (Bs ten - 1 - q) q + ci c
noncomputable def s8 (less : Bool) (p q : Int) (c : Bool) : Int := cond less (sg p - sg q - (1 - ci c)) (sg p + sg q + ci c)
theorem ci_b (c : Bool) : 0 ≤ ci c ∧ ci c ≤ 1 := by cases c <;> exact ⟨by decide, by decide⟩
theorem en_oct {ten : Bool} {x : Int} (h : 0 ≤ x ∧ x < Bs ten) : Oct (en ten x) := by
  cases ten
  · exact h
  · obtain ⟨h1, h2⟩ := h
    have h2 : x < 100 := h2
    show Oct (x / 10 * 16 + x % 10)
    exact ⟨by lia, by lia⟩
section
variable {pc x y sp cyc k p q : Int} {n v bb i z c ten less : Bool} {m : List Int}
theorem s_ADCD {u r : Int} (h0 : at? m pc = some 117) (h1 : Oc m (pc + 1) k) (ox : Oct x) (hv : at? m ((x + k) % 256) = some (enc q)) (hp : 0 ≤ p ∧ p < 100) (hq : 0 ≤ q ∧ q < 100) (hpc : 0 ≤ pc ∧ pc < 65000) (hu : u = (if q % 10 + p % 10 + cond c 1 0 > 9 then (q / 10 + p / 10 + 1) % 16 else (q / 10 + p / 10 + 0) % 16) * 16 + (q % 10 + p % 10 + cond c 1 0) % 16) (hr : r = alu true false p q c) :
    Stp ⟨pc, enc p, x, y, sp, n, v, bb, true, i, z, c, cyc, m⟩ ⟨pc + 1 + 1, enc (r % 100), x, y, sp, decide (128 ≤ u), bAnd (bAnd (bNot (bXor (enc p) (enc q))) (bXor (enc p) u)) 128 != 0, bb, true, i, decide (u = 0), decide (100 ≤ r), cyc + (4 + 0), m⟩ := by
  have q1 : bAnd 255 (x + k) = (x + k) % 256 := and_255l (by have := ox.1; have := h1.2.1; lia) (by have := ox.2; have := h1.2.2; lia)
  refine stp_of (u := ⟨pc, enc p, x, y, sp, n, v, bb, true, i, z, c, cyc, m⟩) (u' := ⟨pc + 1 + 1, enc (r % 100), x, y, sp, decide (128 ≤ u), bAnd (bAnd (bNot (bXor (enc p) (enc q))) (bXor (enc p) u)) 128 != 0, bb, true, i, decide (u = 0), decide (100 ≤ r), cyc, m⟩) (xt := 0) (e := 0) (by kernel_rfl) h0 (by dsimp only; lia) (fun s k' => (r_0x75).trans (bE h1.1 ?_)) (by dsimp only; lia)
  rw [q1]
  exact bE hv (fl_ADCD (fun u q => k' .none (mm (pc + 1 + 1) u x y sp q cyc 0 (.int 0) s m)) _ (ph := p / 10) (pl := p % 10) (qh := q / 10) (ql := q % 10) (by lia) (by lia) (by lia) (by lia) (by show p / 10 * 16 + p % 10 = _; lia) (by show q / 10 * 16 + q % 10 = _; lia) (by rw [hr]; show p + q + ci c = 10 * (p / 10) + p % 10 + (10 * (q / 10) + q % 10) + ci c; lia) hu)
theorem s_SBCD {u r : Int} (h0 : at? m pc = some 245) (h1 : Oc m (pc + 1) k) (ox : Oct x) (hv : at? m ((x + k) % 256) = some (enc q)) (hp : 0 ≤ p ∧ p < 100) (hq : 0 ≤ q ∧ q < 100) (hpc : 0 ≤ pc ∧ pc < 65000) (hu : u = (enc p + (255 - enc q) + cond c 1 0) % 256) (hr : r = alu true true p q c) :
    Stp ⟨pc, enc p, x, y, sp, n, v, bb, true, i, z, c, cyc, m⟩ ⟨pc + 1 + 1, enc (r % 100), x, y, sp, decide (128 ≤ u), bAnd (bAnd (bXor (enc p) (enc q)) (bXor (enc p) u)) 128 != 0, bb, true, i, decide (u = 0), decide (100 ≤ r), cyc + (4 + 0), m⟩ := by
  have q1 : bAnd 255 (x + k) = (x + k) % 256 := and_255l (by have := ox.1; have := h1.2.1; lia) (by have := ox.2; have := h1.2.2; lia)
  refine stp_of (u := ⟨pc, enc p, x, y, sp, n, v, bb, true, i, z, c, cyc, m⟩) (u' := ⟨pc + 1 + 1, enc (r % 100), x, y, sp, decide (128 ≤ u), bAnd (bAnd (bXor (enc p) (enc q)) (bXor (enc p) u)) 128 != 0, bb, true, i, decide (u = 0), decide (100 ≤ r), cyc, m⟩) (xt := 0) (e := 0) (by kernel_rfl) h0 (by dsimp only; lia) (fun s k' => (r_0xf5).trans (bE h1.1 ?_)) (by dsimp only; lia)
  rw [q1]
  exact bE hv (fl_SBCD (fun u q => k' .none (mm (pc + 1 + 1) u x y sp q cyc 0 (.int 0) s m)) _ (ph := p / 10) (pl := p % 10) (qh := q / 10) (ql := q % 10) (by lia) (by lia) (by lia) (by lia) (by show p / 10 * 16 + p % 10 = _; lia) (by show q / 10 * 16 + q % 10 = _; lia) (by rw [hr]; show p + (100 - 1 - q) + ci c = 10 * (p / 10) + p % 10 + (99 - (10 * (q / 10) + q % 10)) + ci c; lia) hu)
theorem alu_step (h0 : at? m pc = some (cond less 245 117)) (h1 : Oc m (pc + 1) k) (ox : Oct x) (hv : at? m ((x + k) % 256) = some (en ten q)) (hp : 0 ≤ p ∧ p < Bs ten) (hq : 0 ≤ q ∧ q < Bs ten) (hpc : 0 ≤ pc ∧ pc < 65000) :
    ∃ n' v' z' cyc', Stp ⟨pc, en ten p, x, y, sp, n, v, bb, ten, i, z, c, cyc, m⟩ ⟨pc + 1 + 1, en ten (alu ten less p q c % Bs ten), x, y, sp, n', v', bb, ten, i, z', decide (Bs ten ≤ alu ten less p q c), cyc', m⟩ ∧ (ten = false → v' = out8 (s8 less p q c)) := by
  have op := en_oct hp
  have oq := en_oct hq
  have cb := ci_b c
  have q1 : bAnd 255 (x + k) = (x + k) % 256 := and_255l (by have := ox.1; have := h1.2.1; lia) (by have := ox.2; have := h1.2.2; lia)
  cases ten
  · have hp : 0 ≤ p ∧ p < 256 := hp
    have hq : 0 ≤ q ∧ q < 256 := hq
    cases less
    · have e : alu false false p q c = q + p + cond c 1 0 := by show p + q + ci c = _; unfold ci; lia
      have s := s_ADCzx (pc := pc) (a := p) (x := x) (y := y) (sp := sp) (cyc := cyc) (n := n) (v := v) (bb := bb) (i := i) (z := z) (c := c) (m := m) (k := k) (w := q) (r := alu false false p q c) h0 h1 ox ⟨hv, oq⟩ op e hpc
      rw [show decide (255 < alu false false p q c) = decide (Bs false ≤ alu false false p q c) from decide_eq_decide.mpr (by show _ ↔ (256 : Int) ≤ _; lia)] at s
      exact ⟨_, _, _, _, s, fun _ => ov_add op oq e cb⟩
    · have e : alu false true p q c = p + (255 - q) + cond c 1 0 := by show p + (256 - 1 - q) + ci c = _; unfold ci; lia
      have s := s_SBCzx (pc := pc) (a := p) (x := x) (y := y) (sp := sp) (cyc := cyc) (n := n) (v := v) (bb := bb) (i := i) (z := z) (c := c) (m := m) (k := k) (w := q) (r := alu false true p q c) h0 h1 ox ⟨hv, oq⟩ op e hpc
      rw [show decide (255 < alu false true p q c) = decide (Bs false ≤ alu false true p q c) from decide_eq_decide.mpr (by show _ ↔ (256 : Int) ≤ _; lia)] at s
      exact ⟨_, _, _, _, s, fun _ => ov_sub op oq e cb⟩
  · have hp : 0 ≤ p ∧ p < 100 := hp
    have hq : 0 ≤ q ∧ q < 100 := hq
    cases less
    · exact ⟨_, _, _, _, s_ADCD (p := p) (q := q) h0 h1 ox hv hp hq hpc rfl rfl, fun h => nomatch h⟩
    · exact ⟨_, _, _, _, s_SBCD (p := p) (q := q) h0 h1 ox hv hp hq hpc rfl rfl, fun h => nomatch h⟩
end
end Mine

end
section
open PySem PySem.W PyProof.Rows
set_option maxRecDepth 100000
set_option maxHeartbeats 0
set_option linter.unusedSimpArgs false
set_option linter.unusedVariables false
namespace Mine
noncomputable def T (g : Nat → Int) : List Int := (List.range 1024).map g
noncomputable def upd (g : Nat → Int) (i : Nat) (x : Int) : Nat → Int := fun j => if j = i then x else g j
theorem T_len {g : Nat → Int} : (T g).length = 1024 := by unfold T; rw [List.length_map, List.length_range]
theorem T_get {g : Nat → Int} {k : Nat} (h : k < 1024) : (T g)[k]? = some (g k) := by
  unfold T; rw [List.getElem?_map, List.getElem?_range h]; rfl
theorem at_T {g : Nat → Int} {k : Int} {v : Int} (h0 : 0 ≤ k) (h1 : k < 1024) (hv : g k.toNat = v) : at? (T g) k = some v := by
  unfold at?; rw [if_pos h0, T_get (by lia), hv]
theorem set_T {g : Nat → Int} {i : Nat} {x : Int} : (T g).set i x = T (upd g i x) := by
  apply List.ext_getElem?
  intro k
  rw [List.getElem?_set]
  by_cases h : k < 1024
  · rw [T_get h, T_get h, T_len]
    unfold upd
    by_cases e : i = k
    · subst e; rw [if_pos rfl, if_pos h, if_pos rfl]
    · rw [if_neg e, if_neg (Ne.symm e)]
  · have : ∀ g, (T g)[k]? = none := fun g => List.getElem?_eq_none (by rw [T_len]; lia)
    rw [this, this]
    split
    · rw [if_neg (by rw [T_len]; lia)]
    · rfl
theorem upd_ne {g : Nat → Int} {i j : Nat} {x : Int} (h : j ≠ i) : upd g i x j = g j := if_neg h
theorem upd_eq {g : Nat → Int} {i : Nat} {x : Int} : upd g i x i = x := if_pos rfl
theorem oct_lit {w : Int} (h : (decide (0 ≤ w) && decide (w < 256)) = true) : Oct w := ⟨of_decide_eq_true (Bool.and_eq_true_iff.mp h).1, of_decide_eq_true (Bool.and_eq_true_iff.mp h).2⟩
inductive Run (q : Int) : Nat → Y → Y → Prop
  | refl (u : Y) : Run q 0 u u
  | step {u u₁ u₂ : Y} {k : Nat} (hq : u.pc ≠ q) (s : Stp u u₁) (r : Run q k u₁ u₂) (hl : u₁.mem.length = 1024 := by exact T_len) : Run q (k + 1) u u₂
theorem Run.trans {q : Int} {j k : Nat} {u u₁ u₂ : Y} (a : Run q j u u₁) (b : Run q k u₁ u₂) : Run q (j + k) u u₂ := by
  induction a with
  | refl u => rw [Nat.zero_add]; exact b
  | step hq s _ hl ih => rw [Nat.succ_add]; exact .step hq s (ih b) hl
noncomputable def Has (ten : Bool) (g : Nat → Int) : Nat → Nat → Int → Prop
  | k, 0, w => True
  | k, n + 1, w => g k = en ten (w % Bs ten) ∧ Has ten g (k + 1) n (w / Bs ten)
noncomputable def put (ten : Bool) : (Nat → Int) → Nat → Nat → Int → (Nat → Int)
  | g, k, 0, w => g
  | g, k, n + 1, w => put ten (upd g k (en ten (w % Bs ten))) (k + 1) n (w / Bs ten)
theorem Has.upd {ten : Bool} {g : Nat → Int} {j : Nat} {v : Int} : ∀ {n k : Nat} {w : Int}, j < k → Has ten g k n w → Has ten (upd g j v) k n w
  | 0, k, w, hj, h => trivial
  | n + 1, k, w, hj, h => ⟨(upd_ne (by lia)).trans h.1, Has.upd (by lia) h.2⟩
noncomputable def sm (less : Bool) (P Q : Int) (c : Bool) : Int := cond less (P - Q - (1 - ci c)) (P + Q + ci c)
noncomputable def c1 (ten less : Bool) (P Q : Int) (c : Bool) : Bool := decide (Bs ten ≤ alu ten less (P % Bs ten) (Q % Bs ten) c)
theorem Bs_2 (ten : Bool) : 2 ≤ Bs ten := by cases ten <;> decide
theorem md (ten : Bool) (w : Int) : 0 ≤ w % Bs ten ∧ w % Bs ten < Bs ten := have h := Bs_2 ten; ⟨Int.emod_nonneg _ (by lia), Int.emod_lt_of_pos _ (by lia)⟩
theorem div_01 {B m X : Int} (h : 2 ≤ B) (h0 : 0 ≤ m) (h1 : m < 2 * B) : (m + B * X) / B = X + ci (decide (B ≤ m)) ∧ (m + B * X) % B = m % B := by
  refine ⟨?_, Int.add_mul_emod_self_left ..⟩
  rw [Int.add_mul_ediv_left _ _ (by lia), Int.add_comm]
  by_cases q : B ≤ m
  · rw [decide_eq_true q, show m = (m - B) + B * 1 by lia, Int.add_mul_ediv_left _ _ (by lia), Int.ediv_eq_zero_of_lt (by lia) (by lia)]; rfl
  · rw [decide_eq_false q, Int.ediv_eq_zero_of_lt h0 (by lia)]; rfl
theorem sm_eq {less c : Bool} {P Q p q B X Y k : Int} (hP : p + B * X = P) (hQ : q + B * Y = Q) : cond less (P - Q - (1 - k)) (P + Q + k) = p + cond less (B - 1 - q) q + k + B * cond less (X - Y - 1) (X + Y) := by
  subst hP hQ
  cases less
  · rw [cond_false, cond_false, cond_false, Int.mul_add]; lia
  · rw [cond_true, cond_true, cond_true, Int.mul_sub, Int.mul_sub]; lia
theorem alu_b {ten less c : Bool} {p q : Int} (hp : 0 ≤ p ∧ p < Bs ten) (hq : 0 ≤ q ∧ q < Bs ten) : 0 ≤ alu ten less p q c ∧ alu ten less p q c < 2 * Bs ten := by
  have cb := ci_b c
  unfold alu
  cases less
  · rw [cond_false]; exact ⟨by lia, by lia⟩
  · rw [cond_true]; exact ⟨by lia, by lia⟩
theorem sm_div {ten less c : Bool} {P Q : Int} : sm less P Q c / Bs ten = sm less (P / Bs ten) (Q / Bs ten) (c1 ten less P Q c) ∧ sm less P Q c % Bs ten = alu ten less (P % Bs ten) (Q % Bs ten) c % Bs ten := by
  have b := alu_b (less := less) (c := c) (md ten P) (md ten Q)
  have d := div_01 (X := cond less (P / Bs ten - Q / Bs ten - 1) (P / Bs ten + Q / Bs ten)) (Bs_2 ten) b.1 b.2
  have e : sm less P Q c = _ := sm_eq (c := c) (Int.emod_add_mul_ediv P (Bs ten)) (Int.emod_add_mul_ediv Q (Bs ten))
  rw [e]
  refine ⟨d.1.trans ?_, d.2⟩
  unfold sm c1
  cases less
  · rfl
  · rw [cond_true, cond_true]; lia
noncomputable def lst (ten : Bool) : Nat → Int → Int
  | 0, w => en ten (w % Bs ten)
  | n + 1, w => lst ten n (w / Bs ten)
noncomputable def co (ten less : Bool) : Nat → Int → Int → Bool → Bool
  | 0, P, Q, c => c
  | n + 1, P, Q, c => co ten less n (P / Bs ten) (Q / Bs ten) (c1 ten less P Q c)
noncomputable def ovr (less : Bool) : Nat → Int → Int → Bool → Bool
  | 0, P, Q, c => out8 (s8 less (P % 256) (Q % 256) c)
  | n + 1, P, Q, c => ovr less n (P / 256) (Q / 256) (c1 false less P Q c)
noncomputable def entL (ten less cr : Bool) (mn A S : Nat) : List Int := [cond ten 248 216, cond cr 56 24, 162, 256 - (mn : Int), 181, (A : Int), cond less 245 117, (S : Int), 149, (A : Int), 232, 208, 247]
noncomputable def Cod (g : Nat → Int) (b : Nat) (l : List Int) : Prop := ∀ k, k < 13 → g (b + k) = l.getD k 0
theorem Cod.upd {g : Nat → Int} {b : Nat} {l : List Int} (h : Cod g b l) {j : Nat} {v : Int} (hj : j < b) : Cod (upd g j v) b l := fun k hk => (upd_ne (by lia)).trans (h k hk)
theorem at_N {g : Nat → Int} {k : Nat} {v : Int} (h1 : k < 1024) (hv : g k = v) : at? (T g) (k : Int) = some v := at_T (Int.natCast_nonneg _) (Int.ofNat_lt.mpr h1) hv
theorem Cod.at {g : Nat → Int} {b : Nat} {l : List Int} (h : Cod g b l) (hb : b + 13 < 1024) (k : Nat) (hk : k < 13) {pc v : Int} (hp : pc = ((b + k : Nat) : Int)) (hv : l.getD k 0 = v) : at? (T g) pc = some v := by
  subst hp; exact at_N (by lia) ((h k hk).trans hv)
theorem pcb {b : Nat} {pc : Int} (hb : b + 13 < 1024) (k : Nat) (hk : k < 14) (hp : pc = ((b + k : Nat) : Int)) : 0 ≤ pc ∧ pc < 65000 := by subst hp; exact ⟨by lia, by lia⟩
theorem pcn {b : Nat} {pc : Int} (k : Nat) (hk : k < 13) (hp : pc = ((b + k : Nat) : Int)) : pc ≠ (b : Int) + 13 := by subst hp; lia
theorem zx {n A : Nat} (h : n ≤ A) (h1 : A < 100) (h2 : 1 ≤ n) : (256 - (n : Int) + (A : Int)) % 256 = ((A - n : Nat) : Int) := by lia
theorem octn {n : Nat} (h : n < 256) : Oct (n : Int) := ⟨Int.natCast_nonneg _, by lia⟩
section
variable {b A S mn : Nat} {a y sp cyc P Q : Int} {fn fv bb i z c ten less cr : Bool} {g : Nat → Int}
theorem body4 {n : Nat} (hb : 768 ≤ b ∧ b + 13 < 1024) (hn : 1 ≤ n ∧ n ≤ 4) (hA : n ≤ A ∧ A < 100) (hS : A + 4 ≤ S ∧ S < 100) (cd : Cod g b (entL ten less cr mn A S)) (gp : g (A - n) = en ten (P % Bs ten)) (gq : g (S - n) = en ten (Q % Bs ten)) :
    ∃ n' v' cyc', Run ((b : Int) + 13) 4 ⟨(b : Int) + 4, a, 256 - (n : Int), y, sp, fn, fv, bb, ten, i, z, c, cyc, T g⟩ ⟨(b : Int) + 11, en ten (sm less P Q c % Bs ten), (256 - (n : Int) + 1) % 256, y, sp, n', v', bb, ten, i, decide ((256 - (n : Int) + 1) % 256 = 0), c1 ten less P Q c, cyc', T (upd g (A - n) (en ten (sm less P Q c % Bs ten)))⟩ ∧ (ten = false → v' = out8 (s8 less (P % 256) (Q % 256) c)) := by
  have ox : Oct (256 - (n : Int)) := ⟨by lia, by lia⟩
  have eA := zx hA.1 hA.2 hn.1
  have eS := zx (Nat.le_trans hA.1 (Nat.le_of_add_right_le hS.1)) hS.2 hn.1
  have oA : Oct (A : Int) := octn (Nat.lt_trans hA.2 (by decide))
  have oS : Oct (S : Int) := octn (Nat.lt_trans hS.2 (by decide))
  have lA : A - n < 1024 := Nat.lt_of_le_of_lt (Nat.sub_le ..) (Nat.lt_trans hA.2 (by decide))
  have lS : S - n < 1024 := Nat.lt_of_le_of_lt (Nat.sub_le ..) (Nat.lt_trans hS.2 (by decide))
  have aA : at? (T g) ((256 - (n : Int) + (A : Int)) % 256) = some (en ten (P % Bs ten)) := eA ▸ at_N lA gp
  have aS : at? (T g) ((256 - (n : Int) + (S : Int)) % 256) = some (en ten (Q % Bs ten)) := eS ▸ at_N lS gq
  have s1 := s_LDAzx (pc := (b : Int) + 4) (a := a) (x := 256 - (n : Int)) (y := y) (sp := sp) (cyc := cyc) (n := fn) (v := fv) (bb := bb) (d := ten) (i := i) (z := z) (c := c) (m := T g) (k := (A : Int)) (w := en ten (P % Bs ten))
    (cd.at hb.2 4 (by decide) rfl rfl) ⟨cd.at hb.2 5 (by decide) rfl rfl, oA⟩ ox ⟨aA, en_oct (md ten P)⟩ (pcb hb.2 4 (by decide) rfl)
  obtain ⟨n2, v2, z2, cy2, s2, hv2⟩ := alu_step (pc := (b : Int) + 4 + 1 + 1) (x := 256 - (n : Int)) (y := y) (sp := sp) (cyc := cyc + (4 + 0)) (n := decide (128 ≤ en ten (P % Bs ten))) (v := fv) (bb := bb) (ten := ten) (less := less) (i := i) (z := decide (en ten (P % Bs ten) = 0)) (c := c) (m := T g) (k := (S : Int)) (p := P % Bs ten) (q := Q % Bs ten)
    (cd.at hb.2 6 (by decide) rfl rfl) ⟨cd.at hb.2 7 (by decide) rfl rfl, oS⟩ ox aS (md ten P) (md ten Q) (pcb hb.2 6 (by decide) rfl)
  rw [← sm_div.2, show decide (Bs ten ≤ alu ten less (P % Bs ten) (Q % Bs ten) c) = c1 ten less P Q c from rfl] at s2
  have s3 := s_STAzx (pc := (b : Int) + 4 + 1 + 1 + 1 + 1) (a := en ten (sm less P Q c % Bs ten)) (x := 256 - (n : Int)) (y := y) (sp := sp) (cyc := cy2) (n := n2) (v := v2) (bb := bb) (d := ten) (i := i) (z := z2) (c := c1 ten less P Q c) (m := T g) (k := (A : Int)) (w := en ten (P % Bs ten))
    (cd.at hb.2 8 (by decide) rfl rfl) ⟨cd.at hb.2 9 (by decide) rfl rfl, oA⟩ ox ⟨aA, en_oct (md ten P)⟩ (pcb hb.2 8 (by decide) rfl)
  rw [eA, Int.toNat_natCast, set_T] at s3
  have cd' : Cod (upd g (A - n) (en ten (sm less P Q c % Bs ten))) b (entL ten less cr mn A S) := cd.upd (by lia)
  have s4 := s_INX (pc := (b : Int) + 4 + 1 + 1 + 1 + 1 + 1 + 1) (a := en ten (sm less P Q c % Bs ten)) (x := 256 - (n : Int)) (y := y) (sp := sp) (cyc := cy2 + (4 + 0)) (n := n2) (v := v2) (bb := bb) (d := ten) (i := i) (z := z2) (c := c1 ten less P Q c) (m := T (upd g (A - n) (en ten (sm less P Q c % Bs ten))))
    (cd'.at hb.2 10 (by decide) rfl rfl) ox (pcb hb.2 10 (by decide) rfl)
  rw [show (b : Int) + 4 + 1 + 1 + 1 + 1 + 1 + 1 + 1 = (b : Int) + 11 from rfl] at s4
  exact ⟨_, v2, _, .step (pcn 4 (by decide) rfl) s1 (.step (pcn 6 (by decide) rfl) s2 (.step (pcn 8 (by decide) rfl) s3 (.step (pcn 10 (by decide) rfl) s4 (.refl _)))), fun h => by subst h; exact hv2 rfl⟩
theorem nx_x {n : Nat} (hn : n + 1 < 4) : ¬ (256 - ((n + 1 + 1 : Nat) : Int) + 1) % 256 = 0 ∧ (256 - ((n + 1 + 1 : Nat) : Int) + 1) % 256 = 256 - ((n + 1 : Nat) : Int) := ⟨by lia, by lia⟩
theorem nx_a {n A : Nat} (h : n + 1 + 1 ≤ A) : A - (n + 1 + 1) + 1 = A - (n + 1) := Nat.sub_add_cancel (m := 1) (n := A - (n + 1)) (Nat.le_sub_of_add_le (by rw [Nat.add_comm]; exact h))
theorem nx_l {n A S : Nat} (h : A ≤ S) (hA : n + 1 + 1 ≤ A) : A - (n + 1 + 1) < S - (n + 1) := Nat.lt_of_lt_of_le (Nat.sub_lt_sub_left hA (Nat.lt_succ_self _)) (Nat.sub_le_sub_right h _)
theorem back_b {b : Nat} (hb : 768 ≤ b ∧ b + 13 < 1024) : (0 ≤ (b : Int) + 4 ∧ (b : Int) + 4 < 65536) ∧ ((b : Int) + 11 + 1 + 1) / 256 = ((b : Int) + 4) / 256 := ⟨⟨by lia, by lia⟩, by lia⟩
theorem rounds (hb : 768 ≤ b ∧ b + 13 < 1024) (hS : A + 4 ≤ S ∧ S < 100) : ∀ (n : Nat) {a P Q cyc : Int} {fn fv z c : Bool} {g : Nat → Int}, n < 4 → n + 1 ≤ A → Cod g b (entL ten less cr mn A S) → Has ten g (A - (n + 1)) (n + 1) P → Has ten g (S - (n + 1)) (n + 1) Q →
    ∃ n' v' cyc', Run ((b : Int) + 13) (5 * (n + 1)) ⟨(b : Int) + 4, a, 256 - ((n + 1 : Nat) : Int), y, sp, fn, fv, bb, ten, i, z, c, cyc, T g⟩ ⟨(b : Int) + 13, lst ten n (sm less P Q c), 0, y, sp, n', v', bb, ten, i, true, co ten less (n + 1) P Q c, cyc', T (put ten g (A - (n + 1)) (n + 1) (sm less P Q c))⟩ ∧ (ten = false → v' = ovr less n P Q c)
  | 0, a, P, Q, cyc, fn, fv, z, c, g, hn, hA, cd, hP, hQ => by
    obtain ⟨n', v', cyc', r, hv⟩ := body4 (a := a) (y := y) (sp := sp) (cyc := cyc) (fn := fn) (fv := fv) (bb := bb) (i := i) (z := z) (c := c) (n := 1) hb (by decide) ⟨hA, by lia⟩ hS cd hP.1 hQ.1
    have cd' : Cod (upd g (A - 1) (en ten (sm less P Q c % Bs ten))) b (entL ten less cr mn A S) := cd.upd (by lia)
    have s := s_BNE_no (pc := (b : Int) + 11) (a := en ten (sm less P Q c % Bs ten)) (x := 0) (y := y) (sp := sp) (cyc := cyc') (n := n') (v := v') (bb := bb) (d := ten) (i := i) (c := c1 ten less P Q c) (m := T (upd g (A - 1) (en ten (sm less P Q c % Bs ten))))
      (cd'.at hb.2 11 (by decide) rfl rfl) (pcb hb.2 11 (by decide) rfl)
    rw [show (b : Int) + 11 + 1 + 1 = (b : Int) + 13 from rfl] at s
    exact ⟨n', v', _, r.trans (.step (pcn 11 (by decide) rfl) s (.refl _)), hv⟩
  | n + 1, a, P, Q, cyc, fn, fv, z, c, g, hn, hA, cd, hP, hQ => by
    have hA1 : A < 100 := by lia
    have hSn : n + 1 + 1 ≤ S := by lia
    obtain ⟨n', v', cyc', r, hv⟩ := body4 (a := a) (y := y) (sp := sp) (cyc := cyc) (fn := fn) (fv := fv) (bb := bb) (i := i) (z := z) (c := c) (n := n + 1 + 1) hb ⟨Nat.le_add_left .., hn⟩ ⟨hA, hA1⟩ hS cd hP.1 hQ.1
    have cd' : Cod (upd g (A - (n + 1 + 1)) (en ten (sm less P Q c % Bs ten))) b (entL ten less cr mn A S) := cd.upd (by lia)
    rw [decide_eq_false (nx_x hn).1, (nx_x hn).2] at r
    have s := s_BNE (pc := (b : Int) + 11) (a := en ten (sm less P Q c % Bs ten)) (x := 256 - ((n + 1 : Nat) : Int)) (y := y) (sp := sp) (cyc := cyc') (n := n') (v := v') (bb := bb) (d := ten) (i := i) (c := c1 ten less P Q c) (m := T (upd g (A - (n + 1 + 1)) (en ten (sm less P Q c % Bs ten)))) (b := 247) (t := (b : Int) + 4)
      (cd'.at hb.2 11 (by decide) rfl rfl) ⟨cd'.at hb.2 12 (by decide) rfl rfl, oct_lit (by decide)⟩ (by rw [if_pos (by decide)]; lia) (back_b hb).1 (back_b hb).2 (pcb hb.2 11 (by decide) rfl)
    have e1 : A - (n + 1 + 1) + 1 = A - (n + 1) := nx_a hA
    have e2 : S - (n + 1 + 1) + 1 = S - (n + 1) := nx_a hSn
    have hP' := hP.2
    have hQ' := hQ.2
    rw [e1] at hP'
    rw [e2] at hQ'
    obtain ⟨n2, v2, cyc2, r2, hv2⟩ := rounds hb hS n (a := en ten (sm less P Q c % Bs ten)) (cyc := cyc' + (2 + 1)) (fn := n') (fv := v') (z := false) (c := c1 ten less P Q c) (Nat.lt_of_succ_lt hn) (Nat.le_of_succ_le hA) cd' (hP'.upd (nx_l (Nat.le_refl A) hA)) (hQ'.upd (nx_l (Nat.le_of_add_right_le hS.1) hA))
    rw [← sm_div.1] at r2
    refine ⟨n2, v2, cyc2, ?_, fun h => by subst h; exact hv2 rfl⟩
    have t := r.trans (.step (pcn 11 (by decide) rfl) s r2)
    rw [show 4 + (5 * (n + 1) + 1) = 5 * (n + 1 + 1) from Nat.add_comm 4 _, ← e1] at t
    exact t
end
end Mine

end
section
open PySem PySem.W PyProof.Rows
set_option maxRecDepth 100000
set_option maxHeartbeats 0
set_option linter.unusedSimpArgs false
set_option linter.unusedVariables false
namespace Mine
section
variable {b A S n : Nat} {a x y sp cyc P Q : Int} {fn fv bb d i z c ten less cr : Bool} {g : Nat → Int}
theorem entry (hb : 768 ≤ b ∧ b + 13 < 1024) (hS : A + 4 ≤ S ∧ S < 100) (hn : n < 4) (hA : n + 1 ≤ A) (cd : Cod g b (entL ten less cr (n + 1) A S)) (hP : Has ten g (A - (n + 1)) (n + 1) P) (hQ : Has ten g (S - (n + 1)) (n + 1) Q) :
    ∃ n' v' cyc', Run ((b : Int) + 13) (3 + 5 * (n + 1)) ⟨(b : Int), a, x, y, sp, fn, fv, bb, d, i, z, c, cyc, T g⟩ ⟨(b : Int) + 13, lst ten n (sm less P Q cr), 0, y, sp, n', v', bb, ten, i, true, co ten less (n + 1) P Q cr, cyc', T (put ten g (A - (n + 1)) (n + 1) (sm less P Q cr))⟩ ∧ (ten = false → v' = ovr less n P Q cr) := by
  have s1 : ∃ cy, Stp ⟨(b : Int), a, x, y, sp, fn, fv, bb, d, i, z, c, cyc, T g⟩ ⟨(b : Int) + 1, a, x, y, sp, fn, fv, bb, ten, i, z, c, cy, T g⟩ := by
    cases ten
    · exact ⟨_, s_CLD (cd.at hb.2 0 (by decide) rfl rfl) (pcb hb.2 0 (by decide) rfl)⟩
    · exact ⟨_, s_SED (cd.at hb.2 0 (by decide) rfl rfl) (pcb hb.2 0 (by decide) rfl)⟩
  obtain ⟨cy1, s1⟩ := s1
  have s2 : ∃ cy, Stp ⟨(b : Int) + 1, a, x, y, sp, fn, fv, bb, ten, i, z, c, cy1, T g⟩ ⟨(b : Int) + 1 + 1, a, x, y, sp, fn, fv, bb, ten, i, z, cr, cy, T g⟩ := by
    cases cr
    · exact ⟨_, s_CLC (cd.at hb.2 1 (by decide) rfl rfl) (pcb hb.2 1 (by decide) rfl)⟩
    · exact ⟨_, s_SEC (cd.at hb.2 1 (by decide) rfl rfl) (pcb hb.2 1 (by decide) rfl)⟩
  obtain ⟨cy2, s2⟩ := s2
  have s3 := s_LDXi (pc := (b : Int) + 1 + 1) (a := a) (x := x) (y := y) (sp := sp) (cyc := cy2) (n := fn) (v := fv) (bb := bb) (d := ten) (i := i) (z := z) (c := cr) (m := T g) (w := 256 - ((n + 1 : Nat) : Int))
    (cd.at hb.2 2 (by decide) rfl rfl) ⟨cd.at hb.2 3 (by decide) rfl rfl, by lia, by lia⟩ (pcb hb.2 2 (by decide) rfl)
  rw [show (b : Int) + 1 + 1 + 1 + 1 = (b : Int) + 4 from rfl] at s3
  obtain ⟨n', v', cyc', r, hv⟩ := rounds (a := a) (y := y) (sp := sp) (fn := decide (128 ≤ 256 - ((n + 1 : Nat) : Int))) (fv := fv) (bb := bb) (i := i) (z := decide (256 - ((n + 1 : Nat) : Int) = 0)) (c := cr) (cyc := cy2 + (2 + 0)) hb hS n hn hA cd hP hQ
  refine ⟨n', v', cyc', ?_, hv⟩
  have t := Run.step (q := (b : Int) + 13) (pcn 0 (by decide) rfl) s1 (.step (pcn 1 (by decide) rfl) s2 (.step (pcn 2 (by decide) rfl) s3 r))
  rw [show 5 * (n + 1) + 1 + 1 + 1 = 3 + 5 * (n + 1) from Nat.add_comm _ 3] at t
  exact t
end
theorem co_eq {ten less : Bool} : ∀ {n : Nat} {P Q : Int} {c : Bool}, 0 ≤ P ∧ P < Bs ten ^ n → 0 ≤ Q ∧ Q < Bs ten ^ n → co ten less n P Q c = cond less (decide (0 ≤ sm less P Q c)) (decide (Bs ten ^ n ≤ sm less P Q c))
  | 0, P, Q, c, hP, hQ => by
    rw [Int.pow_zero] at *
    obtain rfl : P = 0 := by lia
    obtain rfl : Q = 0 := by lia
    cases less <;> cases c <;> rfl
  | n + 1, P, Q, c, hP, hQ => by
    have e : Bs ten ^ (n + 1) = Bs ten ^ n * Bs ten := Int.pow_succ ..
    have h : (0 ≤ P / Bs ten ∧ P / Bs ten < Bs ten ^ n) ∧ (0 ≤ Q / Bs ten ∧ Q / Bs ten < Bs ten ^ n) := by
      rw [e] at hP hQ
      generalize Bs ten ^ n = N at hP hQ ⊢
      cases ten <;> simp only [Bs, cond_true, cond_false] at hP hQ ⊢ <;> lia
    show co ten less n _ _ _ = _
    rw [co_eq h.1 h.2, ← sm_div.1, e]
    generalize Bs ten ^ n = N
    generalize sm less P Q c = s
    cases ten <;> cases less <;> simp only [Bs, cond_true, cond_false] <;> exact decide_eq_decide.mpr (by lia)
noncomputable def sgN (N P : Int) : Int := if 2 * P ≥ N then P - N else P
noncomputable def sS (less : Bool) (N P Q : Int) (c : Bool) : Int := cond less (sgN N P - sgN N Q - (1 - ci c)) (sgN N P + sgN N Q + ci c)
theorem even_pow : ∀ n : Nat, ∃ M : Int, (256 : Int) ^ (n + 1) = 2 * M ∧ 0 < M
  | 0 => ⟨128, rfl, by decide⟩
  | n + 1 => by
    obtain ⟨M, h, p⟩ := even_pow n
    exact ⟨M * 256, by rw [Int.pow_succ, h]; lia, by lia⟩
theorem sgN_div {M P : Int} (h0 : 0 ≤ P) : sgN (2 * M * 256) P = 256 * sgN (2 * M) (P / 256) + P % 256 := by
  unfold sgN
  by_cases h : 2 * P ≥ 2 * M * 256
  · rw [if_pos h, if_pos (by lia)]; lia
  · rw [if_neg h, if_neg (by lia)]; lia
theorem ovr_eq {less : Bool} : ∀ {n : Nat} {P Q : Int} {c : Bool}, 0 ≤ P ∧ P < 256 ^ (n + 1) → 0 ≤ Q ∧ Q < 256 ^ (n + 1) → ovr less n P Q c = !(decide (-(256 ^ (n + 1)) ≤ 2 * sS less (256 ^ (n + 1)) P Q c) && decide (2 * sS less (256 ^ (n + 1)) P Q c < 256 ^ (n + 1)))
  | 0, P, Q, c, hP, hQ => by
    have cb := ci_b c
    rw [show (256 : Int) ^ (0 + 1) = 256 from rfl] at *
    show out8 (s8 less (P % 256) (Q % 256) c) = _
    rw [show P % 256 = P by lia, show Q % 256 = Q by lia]
    have e : s8 less P Q c = sS less 256 P Q c := by
      unfold s8 sS
      rw [show sg P = sgN 256 P by unfold sg sgN; by_cases h : 128 ≤ P; rw [if_pos h, if_pos (by lia)]; rw [if_neg h, if_neg (by lia)],
        show sg Q = sgN 256 Q by unfold sg sgN; by_cases h : 128 ≤ Q; rw [if_pos h, if_pos (by lia)]; rw [if_neg h, if_neg (by lia)]]
    rw [e]
    unfold out8
    rw [show decide (-128 ≤ sS less 256 P Q c) = decide (-256 ≤ 2 * sS less 256 P Q c) from decide_eq_decide.mpr (by lia), show decide (sS less 256 P Q c < 128) = decide (2 * sS less 256 P Q c < 256) from decide_eq_decide.mpr (by lia)]
  | n + 1, P, Q, c, hP, hQ => by
    have e : (256 : Int) ^ (n + 1 + 1) = 256 ^ (n + 1) * 256 := Int.pow_succ ..
    have cb := ci_b c
    rw [e] at *
    have ih := ovr_eq (less := less) (n := n) (P := P / 256) (Q := Q / 256) (c := c1 false less P Q c) (by lia) (by lia)
    show ovr less n (P / 256) (Q / 256) (c1 false less P Q c) = _
    rw [ih]
    obtain ⟨M, hM, _⟩ := even_pow n
    rw [hM] at *
    have k : ∃ r, sS less (2 * M * 256) P Q c = 256 * sS less (2 * M) (P / 256) (Q / 256) (c1 false less P Q c) + r ∧ 0 ≤ r ∧ r < 256 := by
      unfold sS
      rw [sgN_div hP.1, sgN_div hQ.1]
      generalize sgN (2 * M) (P / 256) = p1
      generalize sgN (2 * M) (Q / 256) = q1
      unfold c1
      by_cases h : Bs false ≤ alu false less (P % Bs false) (Q % Bs false) c
      · rw [decide_eq_true h]
        cases less <;> simp only [alu, Bs, cond_true, cond_false, show ci true = 1 from rfl] at h ⊢
        · exact ⟨P % 256 + Q % 256 + ci c - 256, by lia, by lia, by lia⟩
        · exact ⟨P % 256 - Q % 256 - (1 - ci c), by lia, by lia, by lia⟩
      · rw [decide_eq_false h]
        cases less <;> simp only [alu, Bs, cond_true, cond_false, show ci false = 0 from rfl] at h ⊢
        · exact ⟨P % 256 + Q % 256 + ci c, by lia, by lia, by lia⟩
        · exact ⟨P % 256 - Q % 256 - (1 - ci c) + 256, by lia, by lia, by lia⟩
    obtain ⟨r, k, r0, r1⟩ := k
    rw [k]
    generalize sS less (2 * M) (P / 256) (Q / 256) (c1 false less P Q c) = s
    rw [show decide (-(2 * M) ≤ 2 * s) = decide (-(2 * M * 256) ≤ 2 * (256 * s + r)) from decide_eq_decide.mpr (by lia), show decide (2 * s < 2 * M) = decide (2 * (256 * s + r) < 2 * M * 256) from decide_eq_decide.mpr (by lia)]
noncomputable def digL (ten : Bool) : Nat → Int → List Int
  | 0, w => []
  | n + 1, w => en ten (w % Bs ten) :: digL ten n (w / Bs ten)
theorem digL_len {ten : Bool} : ∀ {n : Nat} {w : Int}, (digL ten n w).length = n
  | 0, w => rfl
  | n + 1, w => congrArg (· + 1) digL_len
theorem Bs_pos (ten : Bool) : 0 < Bs ten := by cases ten <;> decide
theorem div_mod_pow {ten : Bool} {n : Nat} {w : Int} : w % Bs ten ^ (n + 1) % Bs ten = w % Bs ten ∧ w % Bs ten ^ (n + 1) / Bs ten = w / Bs ten % Bs ten ^ n := by
  have e : Bs ten ^ (n + 1) = Bs ten * Bs ten ^ n := by rw [Int.pow_succ, Int.mul_comm]
  rw [e]
  have hB := Bs_pos ten
  have hN : 0 < Bs ten ^ n := Int.pow_pos hB
  generalize Bs ten = B at *
  generalize B ^ n = N at *
  refine ⟨Int.emod_emod_of_dvd _ ⟨N, rfl⟩, ?_⟩
  have h := Int.mul_ediv_add_emod w (B * N)
  have m0 := Int.emod_nonneg w (b := B * N) (Int.ne_of_gt (Int.mul_pos hB hN))
  have m1 := Int.emod_lt_of_pos w (Int.mul_pos hB hN)
  generalize w % (B * N) = m at *
  generalize w / (B * N) = t at *
  subst h
  rw [Int.mul_assoc, Int.add_comm (B * (N * t)) m, Int.add_mul_ediv_left _ _ (Int.ne_of_gt hB), Int.add_mul_emod_self_left, Int.emod_eq_of_lt (Int.ediv_nonneg m0 (Int.le_of_lt hB)) (Int.ediv_lt_of_lt_mul hB (by rw [Int.mul_comm]; exact m1))]
theorem lst_mod {ten : Bool} : ∀ {n : Nat} {w : Int}, lst ten n (w % Bs ten ^ (n + 1)) = lst ten n w
  | 0, w => by show en ten (_ % _) = _; rw [div_mod_pow.1]; rfl
  | n + 1, w => by
    show lst ten n (_ / Bs ten) = _
    rw [div_mod_pow.2, lst_mod]; rfl
theorem put_mod {ten : Bool} : ∀ {n k : Nat} {w : Int} {g : Nat → Int}, put ten g k n (w % Bs ten ^ n) = put ten g k n w
  | 0, k, w, g => rfl
  | n + 1, k, w, g => by
    show put ten (upd g k (en ten (_ % Bs ten))) (k + 1) n (_ / Bs ten) = _
    rw [div_mod_pow.1, div_mod_pow.2, put_mod]; rfl
theorem put_out {ten : Bool} : ∀ {n k : Nat} {w : Int} {g : Nat → Int} {j : Nat}, j < k ∨ k + n ≤ j → put ten g k n w j = g j
  | 0, k, w, g, j, h => rfl
  | n + 1, k, w, g, j, h => by
    show put ten (upd g k (en ten (w % Bs ten))) (k + 1) n (w / Bs ten) j = g j
    exact (put_out (by lia)).trans (upd_ne (by lia))
theorem has_congr {ten : Bool} : ∀ {n k : Nat} {w : Int} {g g' : Nat → Int}, (∀ j, k ≤ j → j < k + n → g' j = g j) → Has ten g k n w → Has ten g' k n w
  | 0, k, w, g, g', h, q => trivial
  | n + 1, k, w, g, g', h, q => ⟨(h k (by lia) (by lia)).trans q.1, has_congr (fun j h1 h2 => h j (by lia) (by lia)) q.2⟩
theorem put_has {ten : Bool} : ∀ {n k : Nat} {w : Int} {g : Nat → Int}, Has ten (put ten g k n w) k n w
  | 0, k, w, g => trivial
  | n + 1, k, w, g => by
    have h : Has ten (put ten (upd g k (en ten (w % Bs ten))) (k + 1) n (w / Bs ten)) (k + 1) n (w / Bs ten) := put_has
    refine ⟨?_, h⟩
    show put ten (upd g k (en ten (w % Bs ten))) (k + 1) n (w / Bs ten) k = _
    exact (put_out (by lia)).trans upd_eq
theorem put_ext {ten : Bool} : ∀ {n k : Nat} {w : Int} {g g' : Nat → Int}, (∀ j, j < k ∨ k + n ≤ j → g' j = g j) → put ten g' k n w = put ten g k n w
  | 0, k, w, g, g', h => funext fun j => h j (by lia)
  | n + 1, k, w, g, g', h => by
    have h' : ∀ j, j < k + 1 ∨ k + 1 + n ≤ j → upd g' k (en ten (w % Bs ten)) j = upd g k (en ten (w % Bs ten)) j := fun j q => by
      by_cases e : j = k
      · rw [e, upd_eq, upd_eq]
      · rw [upd_ne e, upd_ne e]; exact h j (by lia)
    exact put_ext (n := n) (k := k + 1) (w := w / Bs ten) h'
theorem put_put {ten : Bool} {n k : Nat} {w w' : Int} {g : Nat → Int} : put ten (put ten g k n w) k n w' = put ten g k n w' := put_ext fun j q => put_out q
theorem has_dig {ten : Bool} : ∀ {n k : Nat} {w : Int} {g : Nat → Int}, Has ten g k n w → (List.range' k n).map g = digL ten n w
  | 0, k, w, g, h => rfl
  | n + 1, k, w, g, h => by
    rw [List.range'_succ, List.map_cons, has_dig h.2, h.1]; rfl
end Mine

end
section
open PySem PySem.W PyProof.Rows
set_option maxRecDepth 100000
set_option maxHeartbeats 0
set_option linter.unusedSimpArgs false
set_option linter.unusedVariables false
namespace Mine
theorem lim_eq : lim = 1048576 := rfl
section
variable {cf : Nat → List LV → Option LV} {ρ ρ' : LLoc}
theorem fmod_emod (x : Int) {n : Int} (h : 0 ≤ n) : x.fmod n = x % n := Int.fmod_eq_emod_of_nonneg _ h
theorem fdiv_ediv (x : Int) {n : Int} (h : 0 ≤ n) : x.fdiv n = x / n := Int.fdiv_eq_ediv_of_nonneg _ h
theorem bin_int {op : LOp} {a b : LE} {x y r : Int} (h1 : evL cf a ρ = some (.int x)) (h2 : evL cf b ρ = some (.int y)) (h : op.ev x y = some r) : evL cf (.bin op a b) ρ = some (.int r) := by
  rw [evL_bin, h1, Option.bind_some, h2, Option.bind_some]
  show (op.ev x y).map LV.int = _
  rw [h]; rfl
theorem add_i {a b : LE} {x y : Int} (h1 : evL cf a ρ = some (.int x)) (h2 : evL cf b ρ = some (.int y)) : evL cf (.bin .add a b) ρ = some (.int (x + y)) := bin_int h1 h2 rfl
theorem sub_i {a b : LE} {x y : Int} (h1 : evL cf a ρ = some (.int x)) (h2 : evL cf b ρ = some (.int y)) : evL cf (.bin .sub a b) ρ = some (.int (x - y)) := bin_int h1 h2 rfl
theorem mul_r {a b : LE} {x y : Int} (h1 : evL cf a ρ = some (.int x)) (h2 : evL cf b ρ = some (.int y)) (h : x.natAbs < 2 ^ 63 ∨ y.natAbs < 2 ^ 63) : evL cf (.bin .mul a b) ρ = some (.int (x * y)) := bin_int h1 h2 (if_pos h)
theorem mod_i {a b : LE} {x y : Int} (h1 : evL cf a ρ = some (.int x)) (h2 : evL cf b ρ = some (.int y)) (h : 0 < y) : evL cf (.bin .mod a b) ρ = some (.int (x % y)) :=
  bin_int h1 h2 ((if_pos (Int.ne_of_gt h)).trans (by rw [fmod_emod _ (Int.le_of_lt h)]))
theorem div_i {a b : LE} {x y : Int} (h1 : evL cf a ρ = some (.int x)) (h2 : evL cf b ρ = some (.int y)) (h : 0 < y) (h' : y.natAbs < 1073741824) : evL cf (.bin .fdiv a b) ρ = some (.int (x / y)) :=
  bin_int h1 h2 ((if_pos ⟨Int.ne_of_gt h, h'⟩).trans (by rw [fdiv_ediv _ (Int.le_of_lt h)]))
theorem int_i {i : Int} : evL cf (.int i) ρ = some (.int i) := by kernel_rfl
theorem app_ok {v : Nat} {e : LE} {xs : List Int} {i : Int} (h1 : ρ.at v = some (.own xs)) (h2 : evL cf e ρ = some (.int i)) (hl : xs.length < lim) (h3 : setL ρ v (.own (xs ++ [i])) = some ρ') : exL cls iInit theFuel cf (.app v e) ρ = some (.next, ρ') := by
  rw [exL_app, h1, Option.bind_some, show (LV.own xs).own? = some xs from rfl, Option.bind_some, h2, Option.bind_some, show (LV.int i).int? = some i from rfl, Option.bind_some, show Nat.blt xs.length lim = true from Nat.ble_eq_true_of_le hl, cond_true, h3]; rfl
end
noncomputable def oct_b : LSs := match s_law_octets_1 with
  | .for _ _ b => b
  | _ => .nil
noncomputable def Lo (v w t : Int) (l : List Int) (tn pt : Option LV) : LLoc := [some (.int v), some (.int w), some (.int t), some (.own l), tn, pt]
theorem octets {d : Nat} {ten : Bool} {n : Nat} {w : Int} (hn : n ≤ 4) : callL cls iInit theFuel theF (d + 1) 0 [.int w, .int (n : Int), .int (cond ten 1 0)] = some (.ints (digL ten n w)) := by
  generalize hcf : callL cls iInit theFuel theF d = cf
  have step : ∀ (i : Nat) (v : Int) (l : List Int) (tn pt : Option LV), l.length < 10 → (tn = none ∧ pt = none ∨ ∃ a b, tn = some (.int a) ∧ pt = some (.int b)) →
      ∃ ρ₁, putV (Lo v (n : Int) (cond ten 1 0) l tn pt) 4 (.int (i : Int)) = some ρ₁ ∧ exLs cls iInit theFuel cf oct_b ρ₁ = some (.next, Lo (v / Bs ten) (n : Int) (cond ten 1 0) (l ++ [en ten (v % Bs ten)]) (some (.int i)) (some (.int (v % Bs ten)))) := by
    intro i v l tn pt hl ht
    have q : ∃ p', (p' = none ∨ ∃ b, p' = some (LV.int b)) ∧ putV (Lo v (n : Int) (cond ten 1 0) l tn pt) 4 (.int (i : Int)) = some (Lo v (n : Int) (cond ten 1 0) l (some (.int i)) p') := by
      rcases ht with ⟨rfl, rfl⟩ | ⟨a, b, rfl, rfl⟩
      · exact ⟨_, .inl rfl, by kernel_rfl⟩
      · exact ⟨_, .inr ⟨b, rfl⟩, by kernel_rfl⟩
    obtain ⟨p', hp', q⟩ := q
    refine ⟨_, q, ?_⟩
    cases ten
    · have s : exL cls iInit theFuel cf (.ite (.var 2) (.cons (.asgU [0, 5] (.divm (.var 0) (.int 100))) (.cons (.app 3 (.bin .add (.bin .mul (.bin .fdiv (.var 5) (.int 10)) (.int 16)) (.bin .mod (.var 5) (.int 10)))) .nil)) (.cons (.asgU [0, 5] (.divm (.var 0) (.int 256))) (.cons (.app 3 (.var 5)) .nil))) (Lo v n 0 l (some (.int i)) p') = some (.next, Lo (v / 256) n 0 (l ++ [v % 256]) (some (.int i)) (some (.int (v % 256)))) := by
        rw [exL_ite, show evL cf (.var 2) (Lo v n 0 l (some (.int i)) p') = some (.int 0) by kernel_rfl]
        show exLs cls iInit theFuel cf (.cons (.asgU [0, 5] (.divm (.var 0) (.int 256))) (.cons (.app 3 (.var 5)) .nil)) _ = _
        have k1 : exL cls iInit theFuel cf (.asgU [0, 5] (.divm (.var 0) (.int 256))) (Lo v n 0 l (some (.int i)) p') = some (.next, Lo (v.fdiv 256) n 0 l (some (.int i)) (some (.int (v.fmod 256)))) := by
          rcases hp' with rfl | ⟨b, rfl⟩ <;> kernel_rfl
        rw [fmod_emod _ (by decide), fdiv_ediv _ (by decide)] at k1
        rw [exLs_go k1, exLs_go (app_ok (ρ' := Lo (v / 256) n 0 (l ++ [v % 256]) (some (.int i)) (some (.int (v % 256)))) (xs := l) (i := v % 256) rfl (by kernel_rfl) (by rw [lim_eq]; lia) (by kernel_rfl))]
        kernel_rfl
      exact (exLs_go s).trans (by kernel_rfl)
    · have s : exL cls iInit theFuel cf (.ite (.var 2) (.cons (.asgU [0, 5] (.divm (.var 0) (.int 100))) (.cons (.app 3 (.bin .add (.bin .mul (.bin .fdiv (.var 5) (.int 10)) (.int 16)) (.bin .mod (.var 5) (.int 10)))) .nil)) (.cons (.asgU [0, 5] (.divm (.var 0) (.int 256))) (.cons (.app 3 (.var 5)) .nil))) (Lo v n 1 l (some (.int i)) p') = some (.next, Lo (v / 100) n 1 (l ++ [enc (v % 100)]) (some (.int i)) (some (.int (v % 100)))) := by
        rw [exL_ite, show evL cf (.var 2) (Lo v n 1 l (some (.int i)) p') = some (.int 1) by kernel_rfl]
        show exLs cls iInit theFuel cf (.cons (.asgU [0, 5] (.divm (.var 0) (.int 100))) (.cons (.app 3 (.bin .add (.bin .mul (.bin .fdiv (.var 5) (.int 10)) (.int 16)) (.bin .mod (.var 5) (.int 10)))) .nil)) _ = _
        have k1 : exL cls iInit theFuel cf (.asgU [0, 5] (.divm (.var 0) (.int 100))) (Lo v n 1 l (some (.int i)) p') = some (.next, Lo (v.fdiv 100) n 1 l (some (.int i)) (some (.int (v.fmod 100)))) := by
          rcases hp' with rfl | ⟨b, rfl⟩ <;> kernel_rfl
        rw [fmod_emod _ (by decide), fdiv_ediv _ (by decide)] at k1
        have x5 : evL cf (.var 5) (Lo (v / 100) n 1 l (some (.int i)) (some (.int (v % 100)))) = some (.int (v % 100)) := by kernel_rfl
        rw [exLs_go k1, exLs_go (app_ok (ρ' := Lo (v / 100) n 1 (l ++ [enc (v % 100)]) (some (.int i)) (some (.int (v % 100)))) (xs := l) (i := v % 100 / 10 * 16 + v % 100 % 10) rfl (add_i (mul_r (div_i x5 int_i (by decide) (by decide)) int_i (.inr (by decide))) (mod_i x5 int_i (by decide))) (by rw [lim_eq]; lia) (by kernel_rfl))]
        kernel_rfl
      exact (exLs_go s).trans (by kernel_rfl)
  obtain ⟨ρ', h, v, l, tn, pt, rfl, he, hl, ht⟩ := for_inv (c := cls) (im := iInit) (fuel := theFuel) (cf := cf) (v := 4) (n := n) (e := .var 1) (b := oct_b)
    (ρ := Lo w (n : Int) (cond ten 1 0) [] none none)
    (fun i ρ => ∃ v l tn pt, ρ = Lo v (n : Int) (cond ten 1 0) l tn pt ∧ digL ten n w = l ++ digL ten (n - i) v ∧ l.length = i ∧ (tn = none ∧ pt = none ∨ ∃ a b, tn = some (.int a) ∧ pt = some (.int b)))
    (by kernel_rfl) (by rw [lim_eq]; lia) ⟨w, [], none, none, rfl, rfl, rfl, .inl ⟨rfl, rfl⟩⟩
    (fun i ρ hi ⟨v, l, tn, pt, er, he, hl, ht⟩ => by
      subst er
      obtain ⟨ρ₁, h1, h2⟩ := step i v l tn pt (by rw [hl]; exact Nat.lt_trans (Nat.lt_of_lt_of_le hi hn) (by decide)) ht
      refine ⟨_, _, h1, h2, _, _, _, _, rfl, ?_, ?_, .inr ⟨_, _, rfl, rfl⟩⟩
      · rw [he, show n - i = (n - (i + 1)) + 1 by lia, List.append_assoc]; rfl
      · rw [List.length_append, hl]; rfl)
  rw [Nat.sub_self, show digL ten 0 v = [] from rfl, List.append_nil] at he
  subst he
  have k0 : exL cls iInit theFuel cf s_law_octets_0 [some (.int w), some (.int (n : Int)), some (.int (cond ten 1 0)), none, none, none] = some (.next, Lo w (n : Int) (cond ten 1 0) [] none none) := by kernel_rfl
  have k1 : exL cls iInit theFuel cf s_law_octets_1 (Lo w (n : Int) (cond ten 1 0) [] none none) = some (.next, Lo v (n : Int) (cond ten 1 0) (digL ten n w) tn pt) := by
    rw [← h]; kernel_rfl
  have k2 : exL cls iInit theFuel cf s_law_octets_2 (Lo v (n : Int) (cond ten 1 0) (digL ten n w) tn pt) = some (.ret (.ints (digL ten n w)), Lo v (n : Int) (cond ten 1 0) (digL ten n w) tn pt) := by kernel_rfl
  have e : callL cls iInit theFuel theF (d + 1) 0 [.int w, .int (n : Int), .int (cond ten 1 0)] = (exLs cls iInit theFuel (callL cls iInit theFuel theF d) fn_law_octets.body [some (.int w), some (.int (n : Int)), some (.int (cond ten 1 0)), none, none, none]).bind fun r => r.1.out := by kernel_rfl
  rw [e, hcf]
  have e2 : exLs cls iInit theFuel cf fn_law_octets.body [some (.int w), some (.int (n : Int)), some (.int (cond ten 1 0)), none, none, none] = some (.ret (.ints (digL ten n w)), Lo v (n : Int) (cond ten 1 0) (digL ten n w) tn pt) :=
    (exLs_go k0).trans ((exLs_go k1).trans (exLs_ret k2))
  rw [e2]; rfl
theorem signed {d : Nat} {w N : Int} : callL cls iInit theFuel theF (d + 1) 1 [.int w, .int N] = some (.int (sgN N w)) := by
  have e : callL cls iInit theFuel theF (d + 1) 1 [.int w, .int N] = (exLs cls iInit theFuel (callL cls iInit theFuel theF d) fn_law_signed.body [some (.int w), some (.int N)]).bind fun r => r.1.out := by kernel_rfl
  rw [e]
  generalize callL cls iInit theFuel theF d = cf
  have c : evL cf (.cmp .ge (.bin .mul (.int 2) (.var 0)) (.var 1)) [some (.int w), some (.int N)] = some (.bool (decide (2 * w ≥ N))) := by
    have : evL cf (.cmp .ge (.bin .mul (.int 2) (.var 0)) (.var 1)) [some (.int w), some (.int N)] = (evL cf (.bin .mul (.int 2) (.var 0)) [some (.int w), some (.int N)]).bind fun x => (cmpV .ge x (.int N)).map LV.bool := by kernel_rfl
    rw [this, mul_r (x := 2) (y := w) int_i (by kernel_rfl) (.inl (by decide))]; rfl
  have c2 : evL cf (.ife (.cmp .ge (.bin .mul (.int 2) (.var 0)) (.var 1)) (.bin .sub (.var 0) (.var 1)) (.var 0)) [some (.int w), some (.int N)] = some (.int (sgN N w)) := by
    show (evL cf (.cmp .ge (.bin .mul (.int 2) (.var 0)) (.var 1)) [some (.int w), some (.int N)]).bind _ = _
    rw [c]
    unfold sgN
    by_cases h : 2 * w ≥ N
    · rw [decide_eq_true h, if_pos h]; kernel_rfl
    · rw [decide_eq_false h, if_neg h]; kernel_rfl
  have e2 : exLs cls iInit theFuel cf fn_law_signed.body [some (.int w), some (.int N)] = some (.ret (.int (sgN N w)), [some (.int w), some (.int N)]) := by
    refine exLs_ret ?_
    show exL cls iInit theFuel cf (.ret (.ife (.cmp .ge (.bin .mul (.int 2) (.var 0)) (.var 1)) (.bin .sub (.var 0) (.var 1)) (.var 0))) _ = _
    rw [exL_ret, c2]; rfl
  rw [e2]; rfl
end Mine

end
section
open PySem PySem.W PyProof.Rows
set_option maxRecDepth 100000
set_option maxHeartbeats 0
set_option linter.unusedSimpArgs false
set_option linter.unusedVariables false
namespace Mine
noncomputable def LA (ns : List Int) (v1 v2 v3 v4 v5 v6 v7 v8 v9 v10 : Option LV) : LLoc := [some (.ints ns), v1, v2, v3, v4, v5, v6, v7, v8, v9, v10, none, none, none, none, none, none, none, none, none, none, none, none, none, none, none, none, none]
section
variable {cf : Nat → List LV → Option LV} {ns dr : List Int} {fi W : Int} {n : Nat} {ten : Bool} {g : Nat → Int}
theorem h0 : ∃ fi, exL cls iInit theFuel cf s_law_0 (LA ns none none none none none none none none none none) = some (.next, LA ns (some (.int fi)) none none none none none none none none none) := by
  cases ns with
  | nil => exact ⟨0, by kernel_rfl⟩
  | cons a l => exact ⟨a, by kernel_rfl⟩
theorem cut_ss {xs : List Int} {a b : Int} : cutI xs (some a) (some b) = (xs.drop (clipAt xs.length a)).take (clipAt xs.length b - clipAt xs.length a) := rfl
theorem clip_min {m a : Nat} : clipAt m (a : Int) = min a m := by
  have h := clipAt_cast m (a : Int)
  rw [if_neg (Int.not_lt.mpr (Int.natCast_nonneg a))] at h
  lia
theorem min16 (n : Nat) : min 6 n - min 1 n ≤ 5 := by lia
theorem cut16 {xs : List Int} : (cutI xs (some 1) (some 6)).length ≤ 5 := by
  rw [cut_ss, List.length_take]
  refine Nat.le_trans (Nat.min_le_left ..) ?_
  rw [show clipAt xs.length 6 = min 6 xs.length from clip_min (a := 6), show clipAt xs.length 1 = min 1 xs.length from clip_min (a := 1)]
  exact min16 _
theorem h1 : ∃ dr, (1 ≤ dr.length ∧ dr.length ≤ 6) ∧ exL cls iInit theFuel cf s_law_1 (LA ns (some (.int fi)) none none none none none none none none none) = some (.next, LA ns (some (.int fi)) (some (.ints dr)) none none none none none none none none) := by
  have hl : (cutI ns (some 1) (some 6)).length ≤ 5 := cut16
  refine ⟨cutI ns (some 1) (some 6) ++ [fi], by rw [List.length_append]; show 1 ≤ _ + 1 ∧ _ + 1 ≤ 6; omega, ?_⟩
  have e : exL cls iInit theFuel cf s_law_1 (LA ns (some (.int fi)) none none none none none none none none none) = (binV .add (.ints (cutI ns (some 1) (some 6))) (.ints [fi])).bind fun x => (putV (LA ns (some (.int fi)) none none none none none none none none none) 2 x).map fun ρ' => (.next, ρ') := by kernel_rfl
  have b : binV .add (.ints (cutI ns (some 1) (some 6))) (.ints [fi]) = some (.ints (cutI ns (some 1) (some 6) ++ [fi])) := by
    show orO (if LOp.add = .add ∧ (cutI ns (some 1) (some 6) ++ [fi]).length ≤ lim then _ else _) _ = _
    rw [if_pos ⟨rfl, by rw [List.length_append, lim_eq]; show _ + 1 ≤ _; omega⟩]; rfl
  rw [e, b]
  kernel_rfl
theorem h2 : ∃ n : Nat, n < 4 ∧ exL cls iInit theFuel cf s_law_2 (LA ns (some (.int fi)) (some (.ints dr)) none none none none none none none none) = some (.next, LA ns (some (.int fi)) (some (.ints dr)) (some (.int ((n + 1 : Nat) : Int))) none none none none none none none) := by
  refine ⟨(fi % 4).toNat, by lia, ?_⟩
  show exL cls iInit theFuel cf (.asg 3 (.bin .add (.int 1) (.bin .mod (.var 1) (.int 4)))) _ = _
  rw [exL_asg, add_i int_i (mod_i (x := fi) (by kernel_rfl) int_i (by decide)), show 1 + fi % 4 = (((fi % 4).toNat + 1 : Nat) : Int) by lia]
  kernel_rfl
theorem h3 : ∃ ten : Bool, exL cls iInit theFuel cf s_law_3 (LA ns (some (.int fi)) (some (.ints dr)) (some (.int ((n + 1 : Nat) : Int))) none none none none none none none) = some (.next, LA ns (some (.int fi)) (some (.ints dr)) (some (.int ((n + 1 : Nat) : Int))) (some (.int (cond ten 1 0))) none none none none none none) := by
  have e : exL cls iInit theFuel cf s_law_3 (LA ns (some (.int fi)) (some (.ints dr)) (some (.int ((n + 1 : Nat) : Int))) none none none none none none none) = some (.next, LA ns (some (.int fi)) (some (.ints dr)) (some (.int ((n + 1 : Nat) : Int))) (some (.int (fi / 4 % 2))) none none none none none none) := by
    show exL cls iInit theFuel cf (.asg 4 (.bin .mod (.bin .fdiv (.var 1) (.int 4)) (.int 2))) _ = _
    rw [exL_asg, mod_i (div_i (x := fi) (by kernel_rfl) int_i (by decide) (by decide)) int_i (by decide)]
    kernel_rfl
  rw [e]
  by_cases h : fi / 4 % 2 = 1
  · exact ⟨true, by rw [h]; rfl⟩
  · exact ⟨false, by rw [show fi / 4 % 2 = 0 by lia]; rfl⟩
theorem h4 (hn : n < 4) : exL cls iInit theFuel cf s_law_4 (LA ns (some (.int fi)) (some (.ints dr)) (some (.int ((n + 1 : Nat) : Int))) (some (.int (cond ten 1 0))) none none none none none none) = some (.next, LA ns (some (.int fi)) (some (.ints dr)) (some (.int ((n + 1 : Nat) : Int))) (some (.int (cond ten 1 0))) (some (.int (Bs ten ^ (n + 1)))) none none none none none) := by
  have hn : n = 0 ∨ n = 1 ∨ n = 2 ∨ n = 3 := by lia
  rcases hn with rfl | rfl | rfl | rfl <;> cases ten <;> kernel_rfl
theorem pow_pos' : 0 < Bs ten ^ n := Int.pow_pos (Bs_pos ten)
theorem h5 : ∃ W, (0 ≤ W ∧ W < Bs ten ^ (n + 1)) ∧ exL cls iInit theFuel cf s_law_5 (LA ns (some (.int fi)) (some (.ints dr)) (some (.int ((n + 1 : Nat) : Int))) (some (.int (cond ten 1 0))) (some (.int (Bs ten ^ (n + 1)))) none none none none none) = some (.next, LA ns (some (.int fi)) (some (.ints dr)) (some (.int ((n + 1 : Nat) : Int))) (some (.int (cond ten 1 0))) (some (.int (Bs ten ^ (n + 1)))) (some (.int W)) none none none none) := by
  refine ⟨fi / 8 * 31 % Bs ten ^ (n + 1), ⟨Int.emod_nonneg _ (Int.ne_of_gt pow_pos'), Int.emod_lt_of_pos _ pow_pos'⟩, ?_⟩
  show exL cls iInit theFuel cf (.asg 6 (.bin .mod (.bin .mul (.bin .fdiv (.var 1) (.int 8)) (.int 31)) (.var 5))) _ = _
  rw [exL_asg, mod_i (mul_r (div_i (x := fi) (by kernel_rfl) int_i (by decide) (by decide)) int_i (.inr (by decide))) (y := Bs ten ^ (n + 1)) (by kernel_rfl) pow_pos']
  kernel_rfl
noncomputable def g00 : Nat → Int := fun k => if k < 64 then (9 * k + 5) % 256 else if k < 768 then 0 else 234
theorem h6 : exL cls iInit theFuel cf s_law_6 (LA ns (some (.int fi)) (some (.ints dr)) (some (.int ((n + 1 : Nat) : Int))) (some (.int (cond ten 1 0))) (some (.int (Bs ten ^ (n + 1)))) (some (.int W)) none none none none) = some (.next, LA ns (some (.int fi)) (some (.ints dr)) (some (.int ((n + 1 : Nat) : Int))) (some (.int (cond ten 1 0))) (some (.int (Bs ten ^ (n + 1)))) (some (.int W)) (some (.own (T g00))) none none none) := by kernel_rfl
theorem clip {a : Nat} (h : a ≤ 1024) : clipAt 1024 (a : Int) = a := clip_min.trans (Nat.min_eq_left h)
theorem cut_dig {k m : Nat} {w : Int} (h : Has ten g k m w) (hk : k + m ≤ 1024) : cutI (T g) (some (k : Int)) (some ((k + m : Nat) : Int)) = digL ten m w := by
  rw [cut_ss, T_len, clip (a := k) (by lia), clip (a := k + m) hk, ← has_dig h, Nat.add_sub_cancel_left]
  apply List.ext_getElem?
  intro j
  by_cases q : j < m
  · rw [List.getElem?_take_of_lt q, List.getElem?_drop, T_get (by lia), List.getElem?_map, List.getElem?_range' (by lia), Nat.one_mul]; rfl
  · rw [List.getElem?_eq_none (by rw [List.length_take]; lia), List.getElem?_eq_none (by rw [List.length_map, List.length_range']; lia)]
theorem dig_get {ten : Bool} : ∀ {m k j : Nat} {w : Int} {g : Nat → Int}, j < m → (digL ten m w)[j]? = some (put ten g k m w (k + j))
  | m, k, j, w, g, h => by
    rw [← has_dig (put_has (ten := ten) (n := m) (k := k) (w := w) (g := g)), List.getElem?_map, List.getElem?_range' (by omega), Nat.one_mul]; rfl
theorem putSl_dig {k m : Nat} {w : Int} (hk : k + m ≤ 1024) : putSl (T g) (some (k : Int)) (some ((k + m : Nat) : Int)) (digL ten m w) = T (put ten g k m w) := by
  have e : putSl (T g) (some (k : Int)) (some ((k + m : Nat) : Int)) (digL ten m w) = (T g).take k ++ digL ten m w ++ (T g).drop (k + m) := by
    show (T g).take (clipAt (T g).length k) ++ _ ++ (T g).drop (max (clipAt (T g).length k) (clipAt (T g).length ((k + m : Nat) : Int))) = _
    rw [T_len, clip (by lia), clip hk, Nat.max_eq_right (by lia)]
  rw [e]
  apply List.ext_getElem?
  intro j
  have lt : ((T g).take k).length = k := by rw [List.length_take, T_len]; lia
  by_cases h1 : j < k
  · rw [List.append_assoc, List.getElem?_append_left (by lia), List.getElem?_take_of_lt h1, T_get (by lia), T_get (by lia), put_out (.inl h1)]
  · by_cases h2 : j < k + m
    · rw [List.getElem?_append_left (by rw [List.length_append, lt, digL_len]; lia), List.getElem?_append_right (by lia), lt, dig_get (k := k) (g := g) (by lia), T_get (by lia), show k + (j - k) = j by lia]
    · rw [List.getElem?_append_right (by rw [List.length_append, lt, digL_len]; lia), List.length_append, lt, digL_len, List.getElem?_drop, show k + m + (j - (k + m)) = j by lia]
      by_cases h3 : j < 1024
      · rw [T_get h3, T_get h3, put_out (.inr (by lia))]
      · rw [List.getElem?_eq_none (by rw [T_len]; lia), List.getElem?_eq_none (by rw [T_len]; lia)]
end
end Mine

end
section
open PySem PySem.W PyProof.Rows
set_option maxRecDepth 100000
set_option maxHeartbeats 0
set_option linter.unusedSimpArgs false
set_option linter.unusedVariables false
namespace Mine
structure En where
  pl : Nat
  Q : Int
  less : Bool
  cr : Bool
noncomputable def En.inv (e : En) : En := ⟨e.pl, e.Q, !e.less, !e.cr⟩
noncomputable def En.row (e : En) : List At := [.int ((16 + 4 * e.pl : Nat) : Int), .int e.Q, .int (ci e.less), .int (ci e.cr)]
noncomputable def En.ok (ten : Bool) (n : Nat) (g : Nat → Int) (e : En) : Prop := e.pl < 6 ∧ (0 ≤ e.Q ∧ e.Q < Bs ten ^ (n + 1)) ∧ Has ten g (16 + 4 * e.pl) (n + 1) e.Q
noncomputable def bkV : List (List At) → LV
  | [] => .ints []
  | r :: rs => .rows (r :: rs)
section
variable {cf : Nat → List LV → Option LV} {ns dr : List Int} {fi W : Int} {n : Nat} {ten : Bool} {g : Nat → Int} {ρ ρ' : LLoc}
theorem slp_ok {v : Nat} {lo hi e : LE} {xs ys : List Int} {a b : Int} (h1 : evL cf e ρ = some (.ints ys)) (h2 : evL cf lo ρ = some (.int a)) (h3 : evL cf hi ρ = some (.int b)) (h4 : ρ.at v = some (.own xs)) (hl : xs.length + ys.length ≤ lim) (h5 : setL ρ v (.own (putSl xs (some a) (some b) ys)) = some ρ') :
    exL cls iInit theFuel cf (.slp v lo hi e) ρ = some (.next, ρ') := by
  have e0 : exL cls iInit theFuel cf (.slp v lo hi e) ρ = (evL cf e ρ).bind fun x => x.ints?.bind fun ys => (evL cf lo ρ).bind fun l => (evL cf hi ρ).bind fun h => (part l).bind fun pl => (part h).bind fun ph => (ρ.at v).bind fun u => u.own?.bind fun xs => cond (Nat.ble (xs.length + ys.length) lim) ((setL ρ v (.own (putSl xs pl ph ys))).map fun ρ' => (.next, ρ')) Option.none := by kernel_rfl
  rw [e0, h1, Option.bind_some, show (LV.ints ys).ints? = some ys from rfl, Option.bind_some, h2, Option.bind_some, h3, Option.bind_some, show part (.int a) = some (some a) from rfl, show part (.int b) = some (some b) from rfl, Option.bind_some, Option.bind_some, h4, Option.bind_some, show (LV.own xs).own? = some xs from rfl, Option.bind_some, show Nat.ble (xs.length + ys.length) lim = true from Nat.ble_eq_true_of_le hl, cond_true, h5]; rfl
noncomputable def LB (ns dr : List Int) (fi : Int) (n : Nat) (ten : Bool) (W : Int) (g : Nat → Int) (bk : LV) (p q r s : Option LV) : LLoc :=
  [some (.ints ns), some (.int fi), some (.ints dr), some (.int ((n + 1 : Nat) : Int)), some (.int (cond ten 1 0)), some (.int (Bs ten ^ (n + 1))), some (.int W), some (.own (T g)), some (.ints []), some (.ownR []), some bk, p, q, r, s, none, none, none, none, none, none, none, none, none, none, none, none, none]
theorem call_oct {n : Nat} (hO : ∀ (ten : Bool) (n : Nat) (w : Int), n ≤ 4 → cf 0 [.int w, .int (n : Int), .int (cond ten 1 0)] = some (.ints (digL ten n w))) (hn : n < 4) {es : LEs} {w : Int} (h : evLs cf es ρ = some [.int w, .int ((n + 1 : Nat) : Int), .int (cond ten 1 0)]) : evL cf (.call 0 es) ρ = some (.ints (digL ten (n + 1) w)) := by
  show (evLs cf es ρ).bind (fun vs => cf 0 vs) = _
  rw [h, Option.bind_some, hO ten (n + 1) w (by lia)]
theorem h7 (hO : ∀ (ten : Bool) (n : Nat) (w : Int), n ≤ 4 → cf 0 [.int w, .int (n : Int), .int (cond ten 1 0)] = some (.ints (digL ten n w))) (hn : n < 4) :
    exL cls iInit theFuel cf s_law_7 (LA ns (some (.int fi)) (some (.ints dr)) (some (.int ((n + 1 : Nat) : Int))) (some (.int (cond ten 1 0))) (some (.int (Bs ten ^ (n + 1)))) (some (.int W)) (some (.own (T g))) none none none) = some (.next, LA ns (some (.int fi)) (some (.ints dr)) (some (.int ((n + 1 : Nat) : Int))) (some (.int (cond ten 1 0))) (some (.int (Bs ten ^ (n + 1)))) (some (.int W)) (some (.own (T (put ten g 8 (n + 1) W)))) none none none) := by
  refine slp_ok (xs := T g) (ys := digL ten (n + 1) W) (a := ((8 : Nat) : Int)) (b := ((8 + (n + 1) : Nat) : Int)) (call_oct hO hn (by kernel_rfl)) (by kernel_rfl) ?_ (by kernel_rfl) (by rw [T_len, digL_len, lim_eq]; lia) ?_
  · rw [add_i (x := 8) int_i (y := ((n + 1 : Nat) : Int)) (by kernel_rfl), show (8 : Int) + ((n + 1 : Nat) : Int) = ((8 + (n + 1) : Nat) : Int) by lia]
  · rw [putSl_dig (by lia)]; kernel_rfl
noncomputable def b11 : LSs := match s_law_11 with
  | .forE _ _ b => b
  | _ => .nil
noncomputable def b11_0 : LS := (.asg 13 (.bin .mod (.bin .add (.bin .mul (.bin .fdiv (.var 12) (.int 4)) (.int 1000003)) (.int 77)) (.var 5)))
noncomputable def b11_1 : LS := (.asg 14 (.bin .add (.int 16) (.bin .mul (.int 4) (.var 11))))
noncomputable def b11_2 : LS := (.slp 7 (.var 14) (.bin .add (.var 14) (.var 3)) (.call 0 (.cons (.var 13) (.cons (.var 3) (.cons (.var 4) .nil)))))
noncomputable def b11_3e : LE := (.tup (.cons (.var 14) (.cons (.var 13) (.cons (.bin .sub (.int 1) (.bin .mod (.var 12) (.int 2))) (.cons (.bin .sub (.int 1) (.bin .mod (.bin .fdiv (.var 12) (.int 2)) (.int 2))) .nil)))))
noncomputable def b11_3 : LS := (.asg 10 (.bin .add (.disp (.cons b11_3e .nil)) (.var 10)))
theorem b11_eq : b11 = .cons b11_0 (.cons b11_1 (.cons b11_2 (.cons b11_3 .nil))) := by kernel_rfl
theorem s11_eq : s_law_11 = .forE [11, 12] (.var 2) b11 := by kernel_rfl
noncomputable def enOf (ten : Bool) (n k : Nat) (x : Int) : En := ⟨k, (x / 4 * 1000003 + 77) % Bs ten ^ (n + 1), decide (x % 2 = 1), decide (x / 2 % 2 = 1)⟩
theorem turn11 (hO : ∀ (ten : Bool) (n : Nat) (w : Int), n ≤ 4 → cf 0 [.int w, .int (n : Int), .int (cond ten 1 0)] = some (.ints (digL ten n w))) (hn : n < 4) {k : Nat} {x : Int} {rs : List (List At)} {p q r s : Option LV} (hk : k < 6) (hr : rs.length ≤ 10) (h : (p = none ∧ q = none ∧ r = none ∧ s = none) ∨ ∃ a b c d, p = some (.int a) ∧ q = some (.int b) ∧ r = some (.int c) ∧ s = some (.int d)) :
    ∃ ρ₁, bindTg (.many [11, 12]) (.tup [.int (k : Int), .int x]) (LB ns dr fi n ten W g (bkV rs) p q r s) = some ρ₁ ∧ exLs cls iInit theFuel cf b11 ρ₁ = some (.next, LB ns dr fi n ten W (put ten g (16 + 4 * k) (n + 1) (enOf ten n k x).Q) (bkV ((enOf ten n k x).inv.row :: rs)) (some (.int k)) (some (.int x)) (some (.int (enOf ten n k x).Q)) (some (.int ((16 + 4 * k : Nat) : Int)))) := by
  have st : ∃ r' s', ((r' = none ∧ s' = none) ∨ ∃ c d, r' = some (LV.int c) ∧ s' = some (LV.int d)) ∧ bindTg (.many [11, 12]) (.tup [.int (k : Int), .int x]) (LB ns dr fi n ten W g (bkV rs) p q r s) = some (LB ns dr fi n ten W g (bkV rs) (some (.int k)) (some (.int x)) r' s') := by
    rcases h with ⟨rfl, rfl, rfl, rfl⟩ | ⟨a, b, c, d, rfl, rfl, rfl, rfl⟩
    · refine ⟨none, none, .inl ⟨rfl, rfl⟩, ?_⟩
      cases rs <;> kernel_rfl
    · refine ⟨_, _, .inr ⟨c, d, rfl, rfl⟩, ?_⟩
      cases rs <;> kernel_rfl
  obtain ⟨r', s', hs, st⟩ := st
  refine ⟨_, st, ?_⟩
  have k0 : exL cls iInit theFuel cf b11_0 (LB ns dr fi n ten W g (bkV rs) (some (.int k)) (some (.int x)) r' s') = some (.next, LB ns dr fi n ten W g (bkV rs) (some (.int k)) (some (.int x)) (some (.int (enOf ten n k x).Q)) s') := by
    unfold b11_0
    rw [exL_asg, mod_i (add_i (mul_r (div_i (x := x) (by kernel_rfl) int_i (by decide) (by decide)) int_i (.inr (by decide))) int_i) (y := Bs ten ^ (n + 1)) (by kernel_rfl) pow_pos']
    rcases hs with ⟨rfl, rfl⟩ | ⟨c, d, rfl, rfl⟩ <;> cases rs <;> kernel_rfl
  have k1 : exL cls iInit theFuel cf b11_1 (LB ns dr fi n ten W g (bkV rs) (some (.int k)) (some (.int x)) (some (.int (enOf ten n k x).Q)) s') = some (.next, LB ns dr fi n ten W g (bkV rs) (some (.int k)) (some (.int x)) (some (.int (enOf ten n k x).Q)) (some (.int ((16 + 4 * k : Nat) : Int)))) := by
    unfold b11_1
    rw [exL_asg, add_i (x := 16) int_i (mul_r (x := 4) int_i (y := (k : Int)) (by kernel_rfl) (.inl (by decide))), show (16 : Int) + 4 * (k : Int) = ((16 + 4 * k : Nat) : Int) by lia]
    rcases hs with ⟨rfl, rfl⟩ | ⟨c, d, rfl, rfl⟩ <;> cases rs <;> kernel_rfl
  have k2 : exL cls iInit theFuel cf b11_2 (LB ns dr fi n ten W g (bkV rs) (some (.int k)) (some (.int x)) (some (.int (enOf ten n k x).Q)) (some (.int ((16 + 4 * k : Nat) : Int)))) = some (.next, LB ns dr fi n ten W (put ten g (16 + 4 * k) (n + 1) (enOf ten n k x).Q) (bkV rs) (some (.int k)) (some (.int x)) (some (.int (enOf ten n k x).Q)) (some (.int ((16 + 4 * k : Nat) : Int)))) := by
    refine slp_ok (xs := T g) (ys := digL ten (n + 1) (enOf ten n k x).Q) (a := ((16 + 4 * k : Nat) : Int)) (b := ((16 + 4 * k + (n + 1) : Nat) : Int)) (call_oct hO hn (by kernel_rfl)) (by kernel_rfl) ?_ (by kernel_rfl) (by rw [T_len, digL_len, lim_eq]; lia) ?_
    · rw [add_i (x := ((16 + 4 * k : Nat) : Int)) (by kernel_rfl) (y := ((n + 1 : Nat) : Int)) (by kernel_rfl), show ((16 + 4 * k : Nat) : Int) + ((n + 1 : Nat) : Int) = ((16 + 4 * k + (n + 1) : Nat) : Int) by lia]
    · rw [putSl_dig (by lia)]; kernel_rfl
  have e1 : 1 - x % 2 = ci (!decide (x % 2 = 1)) := by
    by_cases h : x % 2 = 1
    · rw [decide_eq_true h, h]; rfl
    · rw [decide_eq_false h, show x % 2 = 0 by lia]; rfl
  have e2 : 1 - x / 2 % 2 = ci (!decide (x / 2 % 2 = 1)) := by
    by_cases h : x / 2 % 2 = 1
    · rw [decide_eq_true h, h]; rfl
    · rw [decide_eq_false h, show x / 2 % 2 = 0 by lia]; rfl
  have k3 : exL cls iInit theFuel cf b11_3 (LB ns dr fi n ten W (put ten g (16 + 4 * k) (n + 1) (enOf ten n k x).Q) (bkV rs) (some (.int k)) (some (.int x)) (some (.int (enOf ten n k x).Q)) (some (.int ((16 + 4 * k : Nat) : Int)))) = some (.next, LB ns dr fi n ten W (put ten g (16 + 4 * k) (n + 1) (enOf ten n k x).Q) (bkV ((enOf ten n k x).inv.row :: rs)) (some (.int k)) (some (.int x)) (some (.int (enOf ten n k x).Q)) (some (.int ((16 + 4 * k : Nat) : Int)))) := by
    generalize put ten g (16 + 4 * k) (n + 1) (enOf ten n k x).Q = g'
    have ev : evL cf b11_3e (LB ns dr fi n ten W g' (bkV rs) (some (.int k)) (some (.int x)) (some (.int (enOf ten n k x).Q)) (some (.int ((16 + 4 * k : Nat) : Int)))) = some (.tup (enOf ten n k x).inv.row) := by
      have i1 := sub_i (cf := cf) (ρ := LB ns dr fi n ten W g' (bkV rs) (some (.int k)) (some (.int x)) (some (.int (enOf ten n k x).Q)) (some (.int ((16 + 4 * k : Nat) : Int)))) (x := 1) (a := .int 1) int_i (mod_i (a := .var 12) (b := .int 2) (x := x) (by kernel_rfl) int_i (by decide))
      have i2 := sub_i (cf := cf) (ρ := LB ns dr fi n ten W g' (bkV rs) (some (.int k)) (some (.int x)) (some (.int (enOf ten n k x).Q)) (some (.int ((16 + 4 * k : Nat) : Int)))) (x := 1) (a := .int 1) int_i (mod_i (b := .int 2) (div_i (a := .var 12) (b := .int 2) (x := x) (by kernel_rfl) int_i (by decide) (by decide)) int_i (by decide))
      rw [e1] at i1
      rw [e2] at i2
      show (evLs cf (.cons (.var 14) (.cons (.var 13) (.cons (.bin .sub (.int 1) (.bin .mod (.var 12) (.int 2))) (.cons (.bin .sub (.int 1) (.bin .mod (.bin .fdiv (.var 12) (.int 2)) (.int 2))) .nil)))) _).bind _ = _
      rw [evLs_cons, evLs_cons, evLs_cons, evLs_cons, i1, i2]
      cases rs <;> kernel_rfl
    unfold b11_3
    rw [exL_asg, evL_bin]
    show ((((evLs cf (.cons b11_3e .nil) _).bind fun vs => dispV vs).bind _).bind _) = _
    rw [evLs_cons, ev]
    cases rs with
    | nil => kernel_rfl
    | cons r0 rs =>
      have hb : binV .add (.rows [(enOf ten n k x).inv.row]) (.rows (r0 :: rs)) = some (.rows ((enOf ten n k x).inv.row :: r0 :: rs)) := by
        show (if LOp.add = .add ∧ ([(enOf ten n k x).inv.row] ++ (r0 :: rs)).length ≤ lim then some (LV.rows ([(enOf ten n k x).inv.row] ++ (r0 :: rs))) else none) = _
        rw [if_pos ⟨rfl, by rw [List.length_append, lim_eq]; show 1 + _ ≤ _; lia⟩]; rfl
      show (binV .add (.rows [(enOf ten n k x).inv.row]) (.rows (r0 :: rs))).bind _ = _
      rw [hb]
      kernel_rfl
  rw [b11_eq, exLs_go k0, exLs_go k1, exLs_go k2, exLs_go k3]
  kernel_rfl
end
end Mine

end
section
open PySem PySem.W PyProof.Rows
set_option maxRecDepth 100000
set_option maxHeartbeats 0
set_option linter.unusedSimpArgs false
set_option linter.unusedVariables false
namespace Mine
section
variable {cf : Nat → List LV → Option LV} {ns dr : List Int} {fi W : Int} {n : Nat} {ten : Bool} {g : Nat → Int} {ρ ρ' : LLoc}
noncomputable def IntS (p : Option LV) : Prop := ∃ a, p = some (.int a)
theorem has_put {k k' m m' : Nat} {w w' : Int} (h : Has ten g k m w) (d : k + m ≤ k' ∨ k' + m' ≤ k) : Has ten (put ten g k' m' w') k m w :=
  has_congr (fun j h1 h2 => put_out (by lia)) h
theorem loop11 (hO : ∀ (ten : Bool) (n : Nat) (w : Int), n ≤ 4 → cf 0 [.int w, .int (n : Int), .int (cond ten 1 0)] = some (.ints (digL ten n w))) (hn : n < 4) : ∀ (l : List Int) (k : Nat) (g : Nat → Int) (es : List En) (p q r s : Option LV), k + l.length ≤ 6 → es.length = k → ((p = none ∧ q = none ∧ r = none ∧ s = none) ∨ ∃ a b c d, p = some (.int a) ∧ q = some (.int b) ∧ r = some (.int c) ∧ s = some (.int d)) →
    (∀ e ∈ es, e.ok ten n g ∧ e.pl < k) → Has ten g 8 (n + 1) W →
    ∃ (g' : Nat → Int) (es' : List En) (p' q' r' s' : Option LV), forL (bindTg (.many [11, 12])) (fun ρ => exLs cls iInit theFuel cf b11 ρ) (enumItems k l) (LB ns dr fi n ten W g (bkV (es.map fun e => e.inv.row).reverse) p q r s) = some (.next, LB ns dr fi n ten W g' (bkV (es'.map fun e => e.inv.row).reverse) p' q' r' s') ∧
      es'.length = k + l.length ∧ (∀ e ∈ es', e.ok ten n g') ∧ Has ten g' 8 (n + 1) W ∧ (1 ≤ k + l.length → (k = 0 ∨ IntS p ∧ IntS q ∧ IntS r ∧ IntS s) → IntS p' ∧ IntS q' ∧ IntS r' ∧ IntS s')
  | [], k, g, es, p, q, r, s, hk, he, hs, ok, hW => ⟨g, es, p, q, r, s, rfl, he, fun e h => (ok e h).1, hW, fun h1 h2 => by
      have h1 : 1 ≤ k + 0 := h1
      exact h2.resolve_left (by lia)⟩
  | x :: l, k, g, es, p, q, r, s, hk, he, hs, ok, hW => by
    have hk' : k + (l.length + 1) ≤ 6 := hk
    obtain ⟨ρ₁, b1, b2⟩ := turn11 (ns := ns) (dr := dr) (fi := fi) (W := W) (g := g) (ten := ten) (k := k) (x := x) (rs := (es.map fun e => e.inv.row).reverse) hO hn (by lia) (by rw [List.length_reverse, List.length_map]; lia) hs
    have e1 : (enOf ten n k x).inv.row :: (es.map fun e => e.inv.row).reverse = ((es ++ [enOf ten n k x]).map fun e => e.inv.row).reverse := by
      rw [List.map_append, List.reverse_append]; rfl
    rw [e1] at b2
    have hq : 0 ≤ (enOf ten n k x).Q ∧ (enOf ten n k x).Q < Bs ten ^ (n + 1) := ⟨Int.emod_nonneg _ (Int.ne_of_gt pow_pos'), Int.emod_lt_of_pos _ pow_pos'⟩
    obtain ⟨g', es', p', q', r', s', h1, h2, h3, h4, h5⟩ := loop11 hO hn l (k + 1) (put ten g (16 + 4 * k) (n + 1) (enOf ten n k x).Q) (es ++ [enOf ten n k x]) (some (.int k)) (some (.int x)) (some (.int (enOf ten n k x).Q)) (some (.int ((16 + 4 * k : Nat) : Int))) (by lia) (by rw [List.length_append, he]; rfl) (.inr ⟨_, _, _, _, rfl, rfl, rfl, rfl⟩)
      (fun e h => by
        rcases List.mem_append.mp h with h | h
        · obtain ⟨⟨a, b, c⟩, d⟩ := ok e h
          exact ⟨⟨a, b, has_put c (by lia)⟩, by lia⟩
        · rw [List.mem_singleton.mp h]
          exact ⟨⟨by show k < 6; lia, hq, put_has⟩, Nat.lt_succ_self k⟩) (has_put hW (by lia))
    refine ⟨g', es', p', q', r', s', ?_, by rw [h2]; show _ = k + (l.length + 1); lia, h3, h4, fun _ _ => h5 (by lia) (.inr ⟨⟨_, rfl⟩, ⟨_, rfl⟩, ⟨_, rfl⟩, ⟨_, rfl⟩⟩)⟩
    exact (forL_go (r := enumItems (k + 1) l) b1 b2).trans h1
theorem h11 (hO : ∀ (ten : Bool) (n : Nat) (w : Int), n ≤ 4 → cf 0 [.int w, .int (n : Int), .int (cond ten 1 0)] = some (.ints (digL ten n w))) (hn : n < 4) (hd : 1 ≤ dr.length ∧ dr.length ≤ 6) (hW : Has ten g 8 (n + 1) W) :
    ∃ (g' : Nat → Int) (es : List En) (a b c d : Int), exL cls iInit theFuel cf s_law_11 (LB ns dr fi n ten W g (bkV []) none none none none) = some (.next, LB ns dr fi n ten W g' (.rows (es.map fun e => e.inv.row).reverse) (some (.int a)) (some (.int b)) (some (.int c)) (some (.int d))) ∧
      (1 ≤ es.length ∧ es.length ≤ 6) ∧ (∀ e ∈ es, e.ok ten n g') ∧ Has ten g' 8 (n + 1) W := by
  obtain ⟨g', es, p, q, r, s, h1, h2, h3, h4, h5⟩ := loop11 (ns := ns) (dr := dr) (fi := fi) (W := W) hO hn dr 0 g [] none none none none (by lia) rfl (.inl ⟨rfl, rfl, rfl, rfl⟩) (fun e h => nomatch h) hW
  obtain ⟨⟨a, rfl⟩, ⟨b, rfl⟩, ⟨c, rfl⟩, ⟨d, rfl⟩⟩ := h5 (by lia) (.inl rfl)
  have hl : (es.map fun e => e.inv.row).reverse ≠ [] := fun z => by
    have : (es.map fun e => e.inv.row).reverse.length = 0 := by rw [z]; rfl
    rw [List.length_reverse, List.length_map] at this
    lia
  refine ⟨g', es, a, b, c, d, ?_, by lia, h3, h4⟩
  have e0 : exL cls iInit theFuel cf (.forE [11, 12] (.var 2) b11) (LB ns dr fi n ten W g (bkV []) none none none none) = forL (bindTg (.many [11, 12])) (fun ρ => exLs cls iInit theFuel cf b11 ρ) (enumItems 0 dr) (LB ns dr fi n ten W g (bkV []) none none none none) := by kernel_rfl
  rw [s11_eq, e0]
  refine Eq.trans h1 ?_
  generalize (es.map fun e => e.inv.row).reverse = R at hl
  cases R with
  | nil => exact absurd rfl hl
  | cons r rs => rfl
noncomputable def todo (es : List En) : List En := es ++ (es.map En.inv).reverse
theorem mapO_map {α β γ : Type} {f : β → Option γ} {h : α → β} {k : α → γ} (q : ∀ x, f (h x) = some (k x)) : ∀ l : List α, mapO f (l.map h) = some (l.map k)
  | [] => rfl
  | x :: l => by
    show (f (h x)).bind (fun b => (mapO f (l.map h)).map fun r => b :: r) = _
    rw [q, mapO_map q l]; rfl
noncomputable def LD (ns dr : List Int) (fi : Int) (n : Nat) (ten : Bool) (N W : Int) (g : Nat → Int) (code : List Int) (st : List (List At)) (R : List (List At)) (a b c d : Int) (td : List (List At)) (s16 s17 s18 s19 s20 s21 : Option LV) : LLoc :=
  [some (.ints ns), some (.int fi), some (.ints dr), some (.int ((n + 1 : Nat) : Int)), some (.int (cond ten 1 0)), some (.int N), some (.int W), some (.own (T g)), some (.ints code), some (.ownR st), some (.rows R), some (.int a), some (.int b), some (.int c), some (.int d), some (.rows td), s16, s17, s18, s19, s20, s21, none, none, none, none, none, none]
theorem h12 {es : List En} {a b c d : Int} (hl : es.length ≤ 6) : exL cls iInit theFuel cf s_law_12 (LB ns dr fi n ten W g (.rows (es.map fun e => e.inv.row).reverse) (some (.int a)) (some (.int b)) (some (.int c)) (some (.int d))) = some (.next, LD ns dr fi n ten (Bs ten ^ (n + 1)) W g [] [] (es.map fun e => e.inv.row).reverse a b c d ((todo es).map En.row) none none none none none none) := by
  generalize hρ : LB ns dr fi n ten W g (.rows (es.map fun e => e.inv.row).reverse) (some (.int a)) (some (.int b)) (some (.int c)) (some (.int d)) = ρ
  have e1 : evL cf (.compT ["spot", "value", "less", "carry"] (.cons (.var 0) (.cons (.var 1) (.cons (.bin .sub (.int 1) (.var 2)) (.cons (.bin .sub (.int 1) (.var 3)) .nil)))) (.lst (.rev (.var 10)))) ρ = some (.rows (es.map En.row)) := by
    have i : evSrc cf (.lst (.rev (.var 10))) ρ = some ((es.map fun e => e.inv.row).map LV.tup) := by
      rw [← hρ]
      have : evSrc cf (.lst (.rev (.var 10))) (LB ns dr fi n ten W g (.rows (es.map fun e => e.inv.row).reverse) (some (.int a)) (some (.int b)) (some (.int c)) (some (.int d))) = some ((es.map fun e => e.inv.row).reverse.reverse.map LV.tup) := by kernel_rfl
      rw [this, List.reverse_reverse]
    show (evSrc cf (.lst (.rev (.var 10))) ρ).bind _ = _
    rw [i, Option.bind_some, List.map_map, mapO_map (k := En.row) (fun e => by
      obtain ⟨pl, Q, less, cr⟩ := e
      cases less <;> cases cr <;> kernel_rfl)]
    rfl
  have e2 : evL cf (.var 10) ρ = some (.rows (es.map fun e => e.inv.row).reverse) := by rw [← hρ]; kernel_rfl
  have e3 : binV .add (.rows (es.map En.row)) (.rows (es.map fun e => e.inv.row).reverse) = some (.rows ((todo es).map En.row)) := by
    show (if LOp.add = .add ∧ (es.map En.row ++ (es.map fun e => e.inv.row).reverse).length ≤ lim then some (LV.rows (es.map En.row ++ (es.map fun e => e.inv.row).reverse)) else none) = _
    rw [if_pos ⟨rfl, by rw [List.length_append, List.length_map, List.length_reverse, List.length_map, lim_eq]; lia⟩]
    unfold todo
    rw [List.map_append, List.map_reverse, List.map_map]; rfl
  show exL cls iInit theFuel cf (.asg 15 (.bin .add _ (.var 10))) _ = _
  rw [exL_asg, evL_bin, e1, Option.bind_some, e2, Option.bind_some, e3, Option.bind_some, ← hρ]
  kernel_rfl
end
end Mine

end
section
open PySem PySem.W PyProof.Rows
set_option maxRecDepth 100000
set_option maxHeartbeats 0
set_option linter.unusedSimpArgs false
set_option linter.unusedVariables false
namespace Mine
noncomputable def leftB (less : Bool) (N W Q : Int) (c : Bool) : Bool := cond less (decide (0 ≤ sm less W Q c)) (decide (N ≤ sm less W Q c))
noncomputable def overB (less : Bool) (N W Q : Int) (c : Bool) : Bool := !(decide (-N ≤ 2 * sS less N W Q c) && decide (2 * sS less N W Q c < N))
noncomputable def nextW (N W : Int) (e : En) : Int := sm e.less W e.Q e.cr % N
noncomputable def stopRow (ten : Bool) (n : Nat) (N b W : Int) (e : En) : List At := [.int (b + 13), .ints (digL ten (n + 1) (nextW N W e)), .int (ci (leftB e.less N W e.Q e.cr)), .int (ci (overB e.less N W e.Q e.cr))]
noncomputable def enCode (ten : Bool) (n : Nat) (e : En) : List Int := entL ten e.less e.cr (n + 1) (8 + (n + 1)) (16 + 4 * e.pl + (n + 1))
noncomputable def b13 : LSs := match s_law_13 with
  | .for _ _ b => b
  | _ => .nil
noncomputable def b13_0 : LS := (.asg 8 (.bin .add (.var 8) (.disp (.cons (.ife (.var 4) (.int 248) (.int 216)) (.cons (.ife (.var 17) (.int 56) (.int 24)) (.cons (.int 162) (.cons (.bin .sub (.int 256) (.var 3)) .nil)))))))
noncomputable def b13_1 : LS := (.asg 8 (.bin .add (.var 8) (.disp (.cons (.int 181) (.cons (.bin .mod (.bin .add (.int 8) (.var 3)) (.int 256)) (.cons (.ife (.var 16) (.int 245) (.int 117)) (.cons (.bin .mod (.bin .add (.var 14) (.var 3)) (.int 256)) (.cons (.int 149) (.cons (.bin .mod (.bin .add (.int 8) (.var 3)) (.int 256)) (.cons (.int 232) (.cons (.int 208) (.cons (.int 247) .nil))))))))))))
noncomputable def b13_2a : LSs := (.cons (.asg 18 (.bin .sub (.bin .sub (.var 6) (.var 13)) (.bin .sub (.int 1) (.var 17)))) (.cons (.asg 19 (.bin .sub (.bin .sub (.call 1 (.cons (.var 6) (.cons (.var 5) .nil))) (.call 1 (.cons (.var 13) (.cons (.var 5) .nil)))) (.bin .sub (.int 1) (.var 17)))) (.cons (.asg 20 (.ife (.cmp .ge (.var 18) (.int 0)) (.int 1) (.int 0))) .nil)))
noncomputable def b13_2b : LSs := (.cons (.asg 18 (.bin .add (.bin .add (.var 6) (.var 13)) (.var 17))) (.cons (.asg 19 (.bin .add (.bin .add (.call 1 (.cons (.var 6) (.cons (.var 5) .nil))) (.call 1 (.cons (.var 13) (.cons (.var 5) .nil)))) (.var 17))) (.cons (.asg 20 (.ife (.cmp .ge (.var 18) (.var 5)) (.int 1) (.int 0))) .nil)))
noncomputable def b13_2 : LS := .ite (.var 16) b13_2a b13_2b
noncomputable def b13_3 : LS := (.asg 21 (.ife (.cmp2 .le .lt (.neg (.var 5)) (.bin .mul (.int 2) (.var 19)) (.var 5)) (.int 0) (.int 1)))
noncomputable def b13_4 : LS := (.asg 6 (.bin .mod (.var 18) (.var 5)))
noncomputable def b13_5e : LEs := (.cons (.bin .add (.int 768) (.len (.var 8))) (.cons (.call 0 (.cons (.var 6) (.cons (.var 3) (.cons (.var 4) .nil)))) (.cons (.var 20) (.cons (.var 21) .nil))))
noncomputable def b13_5 : LS := .appR 9 b13_5e
theorem b13_eq : b13 = .cons b13_0 (.cons b13_1 (.cons b13_2 (.cons b13_3 (.cons b13_4 (.cons b13_5 .nil))))) := by kernel_rfl
theorem s13_eq : s_law_13 = .for (.many [14, 13, 16, 17]) (.lst (.var 15)) b13 := by kernel_rfl
section
variable {cf : Nat → List LV → Option LV} {ns dr code : List Int} {fi N W W' a b Q x y : Int} {n : Nat} {ten less cr : Bool} {g : Nat → Int} {ρ ρ' : LLoc} {st R td : List (List At)} {s16 s17 s18 s19 s20 s21 : Option LV}
theorem ints_app {e1 e2 : LE} {xs ys : List Int} (h1 : evL cf e1 ρ = some (.ints xs)) (h2 : evL cf e2 ρ = some (.ints ys)) (hl : (xs ++ ys).length ≤ lim) : evL cf (.bin .add e1 e2) ρ = some (.ints (xs ++ ys)) := by
  rw [evL_bin, h1, Option.bind_some, h2, Option.bind_some]
  show orO (if LOp.add = .add ∧ (xs ++ ys).length ≤ lim then some (LV.ints (xs ++ ys)) else none) _ = _
  rw [if_pos ⟨rfl, hl⟩]; rfl
noncomputable def Sl (s18 s19 s20 s21 : Option LV) : Prop := (s18 = none ∧ s19 = none ∧ s20 = none ∧ s21 = none) ∨ ∃ a b c d, s18 = some (.int a) ∧ s19 = some (.int b) ∧ s20 = some (.int c) ∧ s21 = some (.int d)
theorem t13_0 (hs : Sl s18 s19 s20 s21) (hc : code.length ≤ 1000) : exL cls iInit theFuel cf b13_0 (LD ns dr fi n ten N W g code st R a b Q x td (some (.int (ci less))) (some (.int (ci cr))) s18 s19 s20 s21) = some (.next, LD ns dr fi n ten N W g (code ++ [cond ten 248 216, cond cr 56 24, 162, 256 - ((n + 1 : Nat) : Int)]) st R a b Q x td (some (.int (ci less))) (some (.int (ci cr))) s18 s19 s20 s21) := by
  unfold b13_0
  rw [exL_asg, ints_app (xs := code) (ys := [cond ten 248 216, cond cr 56 24, 162, 256 - ((n + 1 : Nat) : Int)]) (by kernel_rfl) (by cases ten <;> cases cr <;> kernel_rfl) (by rw [List.length_append, lim_eq]; show _ + 4 ≤ _; lia)]
  rcases hs with ⟨rfl, rfl, rfl, rfl⟩ | ⟨_, _, _, _, rfl, rfl, rfl, rfl⟩ <;> kernel_rfl
theorem t13_1 {k : Nat} (hn : n < 4) (hk : k < 6) (hs : Sl s18 s19 s20 s21) (hc : code.length ≤ 1004) : exL cls iInit theFuel cf b13_1 (LD ns dr fi n ten N W g code st R a b Q ((16 + 4 * k : Nat) : Int) td (some (.int (ci less))) (some (.int (ci cr))) s18 s19 s20 s21) = some (.next, LD ns dr fi n ten N W g (code ++ [181, ((8 + (n + 1) : Nat) : Int), cond less 245 117, ((16 + 4 * k + (n + 1) : Nat) : Int), 149, ((8 + (n + 1) : Nat) : Int), 232, 208, 247]) st R a b Q ((16 + 4 * k : Nat) : Int) td (some (.int (ci less))) (some (.int (ci cr))) s18 s19 s20 s21) := by
  unfold b13_1
  generalize hρ : LD ns dr fi n ten N W g code st R a b Q ((16 + 4 * k : Nat) : Int) td (some (.int (ci less))) (some (.int (ci cr))) s18 s19 s20 s21 = ρ
  have v3 : evL cf (.var 3) ρ = some (.int ((n + 1 : Nat) : Int)) := by rw [← hρ]; kernel_rfl
  have v14 : evL cf (.var 14) ρ = some (.int ((16 + 4 * k : Nat) : Int)) := by rw [← hρ]; kernel_rfl
  have v16 : evL cf (.ife (.var 16) (.int 245) (.int 117)) ρ = some (.int (cond less 245 117)) := by rw [← hρ]; cases less <;> kernel_rfl
  have m1 := mod_i (cf := cf) (b := .int 256) (add_i (a := .int 8) (x := 8) int_i v3) int_i (by decide)
  have m2 := mod_i (cf := cf) (b := .int 256) (add_i v14 v3) int_i (by decide)
  rw [show ((8 : Int) + ((n + 1 : Nat) : Int)) % 256 = ((8 + (n + 1) : Nat) : Int) by lia] at m1
  rw [show (((16 + 4 * k : Nat) : Int) + ((n + 1 : Nat) : Int)) % 256 = ((16 + 4 * k + (n + 1) : Nat) : Int) by lia] at m2
  have e : evL cf (.disp (.cons (.int 181) (.cons (.bin .mod (.bin .add (.int 8) (.var 3)) (.int 256)) (.cons (.ife (.var 16) (.int 245) (.int 117)) (.cons (.bin .mod (.bin .add (.var 14) (.var 3)) (.int 256)) (.cons (.int 149) (.cons (.bin .mod (.bin .add (.int 8) (.var 3)) (.int 256)) (.cons (.int 232) (.cons (.int 208) (.cons (.int 247) .nil)))))))))) ρ = some (.ints [181, ((8 + (n + 1) : Nat) : Int), cond less 245 117, ((16 + 4 * k + (n + 1) : Nat) : Int), 149, ((8 + (n + 1) : Nat) : Int), 232, 208, 247]) := by
    show ((evLs cf _ ρ).bind fun vs => dispV vs) = _
    rw [evLs_cons, evLs_cons, evLs_cons, evLs_cons, evLs_cons, evLs_cons, m1, m2, v16]
    kernel_rfl
  have v8 : evL cf (.var 8) ρ = some (.ints code) := by rw [← hρ]; kernel_rfl
  rw [exL_asg, ints_app v8 e (by rw [List.length_append, lim_eq]; show _ + 9 ≤ _; lia), ← hρ]
  rcases hs with ⟨rfl, rfl, rfl, rfl⟩ | ⟨_, _, _, _, rfl, rfl, rfl, rfl⟩ <;> kernel_rfl
theorem call_sg (hS : ∀ w N : Int, cf 1 [.int w, .int N] = some (.int (sgN N w))) {es : LEs} {w N : Int} (h : evLs cf es ρ = some [.int w, .int N]) : evL cf (.call 1 es) ρ = some (.int (sgN N w)) := by
  show (evLs cf es ρ).bind (fun vs => cf 1 vs) = _
  rw [h, Option.bind_some, hS]
theorem asg_put {v : Nat} {e : LE} {y : LV} (h : evL cf e ρ = some y) (hp : putV ρ v y = some ρ') : exL cls iInit theFuel cf (.asg v e) ρ = some (.next, ρ') := by
  rw [exL_asg, h, Option.bind_some, hp]; rfl
theorem p18 {u z1 z2 : Int} (hs : Sl s18 s19 s20 s21) : putV (LD ns dr fi n ten N W g code st R a b Q x td (some (.int z1)) (some (.int z2)) s18 s19 s20 s21) 18 (.int u) = some (LD ns dr fi n ten N W g code st R a b Q x td (some (.int z1)) (some (.int z2)) (some (.int u)) s19 s20 s21) := by
  rcases hs with ⟨rfl, rfl, rfl, rfl⟩ | ⟨_, _, _, _, rfl, rfl, rfl, rfl⟩ <;> kernel_rfl
theorem p19 {u z1 z2 z3 : Int} (hs : Sl s18 s19 s20 s21) : putV (LD ns dr fi n ten N W g code st R a b Q x td (some (.int z1)) (some (.int z2)) (some (.int z3)) s19 s20 s21) 19 (.int u) = some (LD ns dr fi n ten N W g code st R a b Q x td (some (.int z1)) (some (.int z2)) (some (.int z3)) (some (.int u)) s20 s21) := by
  rcases hs with ⟨rfl, rfl, rfl, rfl⟩ | ⟨_, _, _, _, rfl, rfl, rfl, rfl⟩ <;> kernel_rfl
theorem p20 {u z1 z2 z3 z4 : Int} (hs : Sl s18 s19 s20 s21) : putV (LD ns dr fi n ten N W g code st R a b Q x td (some (.int z1)) (some (.int z2)) (some (.int z3)) (some (.int z4)) s20 s21) 20 (.int u) = some (LD ns dr fi n ten N W g code st R a b Q x td (some (.int z1)) (some (.int z2)) (some (.int z3)) (some (.int z4)) (some (.int u)) s21) := by
  rcases hs with ⟨rfl, rfl, rfl, rfl⟩ | ⟨_, _, _, _, rfl, rfl, rfl, rfl⟩ <;> kernel_rfl
theorem Sl.fr (hs : Sl s18 s19 s20 s21) : s21 = none ∨ ∃ d, s21 = some (.int d) := by
  rcases hs with ⟨_, _, _, rfl⟩ | ⟨_, _, _, d, _, _, _, rfl⟩
  · exact .inl rfl
  · exact .inr ⟨d, rfl⟩
theorem ife01 {e : LE} {q : Bool} (h : evL cf e ρ = some (.bool q)) : evL cf (.ife e (.int 1) (.int 0)) ρ = some (.int (ci q)) := by
  show (evL cf e ρ).bind _ = _
  rw [h]; cases q <;> kernel_rfl
theorem three {e1 e2 e3 : LE} {y1 y2 y3 z1 z2 : Int} (hs : Sl s18 s19 s20 s21)
    (h1 : evL cf e1 (LD ns dr fi n ten N W g code st R a b Q x td (some (.int z1)) (some (.int z2)) s18 s19 s20 s21) = some (.int y1))
    (h2 : evL cf e2 (LD ns dr fi n ten N W g code st R a b Q x td (some (.int z1)) (some (.int z2)) (some (.int y1)) s19 s20 s21) = some (.int y2))
    (h3 : evL cf e3 (LD ns dr fi n ten N W g code st R a b Q x td (some (.int z1)) (some (.int z2)) (some (.int y1)) (some (.int y2)) s20 s21) = some (.int y3)) :
    exLs cls iInit theFuel cf (.cons (.asg 18 e1) (.cons (.asg 19 e2) (.cons (.asg 20 e3) .nil))) (LD ns dr fi n ten N W g code st R a b Q x td (some (.int z1)) (some (.int z2)) s18 s19 s20 s21) = some (.next, LD ns dr fi n ten N W g code st R a b Q x td (some (.int z1)) (some (.int z2)) (some (.int y1)) (some (.int y2)) (some (.int y3)) s21) := by
  rw [exLs_go (asg_put h1 (p18 hs)), exLs_go (asg_put h2 (p19 hs)), exLs_go (asg_put h3 (p20 hs))]
  kernel_rfl
theorem t13_2 (hS : ∀ w N : Int, cf 1 [.int w, .int N] = some (.int (sgN N w))) (hs : Sl s18 s19 s20 s21) : ∃ s21', (s21' = none ∨ ∃ d, s21' = some (.int d)) ∧ exL cls iInit theFuel cf b13_2 (LD ns dr fi n ten N W g code st R a b Q x td (some (.int (ci less))) (some (.int (ci cr))) s18 s19 s20 s21) = some (.next, LD ns dr fi n ten N W g code st R a b Q x td (some (.int (ci less))) (some (.int (ci cr))) (some (.int (sm less W Q cr))) (some (.int (sS less N W Q cr))) (some (.int (ci (leftB less N W Q cr)))) s21') := by
  refine ⟨s21, hs.fr, ?_⟩
  cases less
  · exact (show exL cls iInit theFuel cf b13_2 (LD ns dr fi n ten N W g code st R a b Q x td (some (.int (ci false))) (some (.int (ci cr))) s18 s19 s20 s21) = exLs cls iInit theFuel cf b13_2b (LD ns dr fi n ten N W g code st R a b Q x td (some (.int (ci false))) (some (.int (ci cr))) s18 s19 s20 s21) by kernel_rfl).trans
      (three hs (by kernel_rfl) (add_i (add_i (call_sg hS (w := W) (N := N) (by kernel_rfl)) (call_sg hS (w := Q) (N := N) (by kernel_rfl))) (y := ci cr) (by kernel_rfl)) (ife01 (by kernel_rfl)))
  · exact (show exL cls iInit theFuel cf b13_2 (LD ns dr fi n ten N W g code st R a b Q x td (some (.int (ci true))) (some (.int (ci cr))) s18 s19 s20 s21) = exLs cls iInit theFuel cf b13_2a (LD ns dr fi n ten N W g code st R a b Q x td (some (.int (ci true))) (some (.int (ci cr))) s18 s19 s20 s21) by kernel_rfl).trans
      (three hs (by kernel_rfl) (sub_i (sub_i (call_sg hS (w := W) (N := N) (by kernel_rfl)) (call_sg hS (w := Q) (N := N) (by kernel_rfl))) (y := 1 - ci cr) (by kernel_rfl)) (ife01 (by kernel_rfl)))
end
end Mine

end
section
open PySem PySem.W PyProof.Rows
set_option maxRecDepth 100000
set_option maxHeartbeats 0
set_option linter.unusedSimpArgs false
set_option linter.unusedVariables false
namespace Mine
section
variable {cf : Nat → List LV → Option LV} {ns dr code : List Int} {fi N W W' a b Q x y E S : Int} {n : Nat} {ten less cr lf ov : Bool} {g : Nat → Int} {ρ ρ' : LLoc} {st R td : List (List At)} {s16 s17 s18 s19 s20 s21 : Option LV}
theorem t13_3 (hs : s21 = none ∨ ∃ d, s21 = some (.int d)) : exL cls iInit theFuel cf b13_3 (LD ns dr fi n ten N W g code st R a b Q x td (some (.int (ci less))) (some (.int (ci cr))) (some (.int E)) (some (.int S)) (some (.int (ci lf))) s21) = some (.next, LD ns dr fi n ten N W g code st R a b Q x td (some (.int (ci less))) (some (.int (ci cr))) (some (.int E)) (some (.int S)) (some (.int (ci lf))) (some (.int (ci (!(decide (-N ≤ 2 * S) && decide (2 * S < N))))))) := by
  have c : evL cf (.cmp2 .le .lt (.neg (.var 5)) (.bin .mul (.int 2) (.var 19)) (.var 5)) (LD ns dr fi n ten N W g code st R a b Q x td (some (.int (ci less))) (some (.int (ci cr))) (some (.int E)) (some (.int S)) (some (.int (ci lf))) s21) = some (.bool (decide (-N ≤ 2 * S) && decide (2 * S < N))) := by
    have m : evL cf (.bin .mul (.int 2) (.var 19)) (LD ns dr fi n ten N W g code st R a b Q x td (some (.int (ci less))) (some (.int (ci cr))) (some (.int E)) (some (.int S)) (some (.int (ci lf))) s21) = some (.int (2 * S)) := mul_r int_i (by kernel_rfl) (.inl (by decide))
    have e : evL cf (.cmp2 .le .lt (.neg (.var 5)) (.bin .mul (.int 2) (.var 19)) (.var 5)) (LD ns dr fi n ten N W g code st R a b Q x td (some (.int (ci less))) (some (.int (ci cr))) (some (.int E)) (some (.int S)) (some (.int (ci lf))) s21) = (evL cf (.bin .mul (.int 2) (.var 19)) (LD ns dr fi n ten N W g code st R a b Q x td (some (.int (ci less))) (some (.int (ci cr))) (some (.int E)) (some (.int S)) (some (.int (ci lf))) s21)).bind fun y => y.int?.bind fun j => cond (COp.ev .le (-N) j) (some (LV.bool (COp.ev .lt j N))) (some (.bool false)) := by kernel_rfl
    rw [e, m]
    show cond (decide (-N ≤ 2 * S)) (some (LV.bool (decide (2 * S < N)))) (some (.bool false)) = _
    cases decide (-N ≤ 2 * S) <;> rfl
  unfold b13_3
  rw [exL_asg]
  show ((((evL cf (.cmp2 .le .lt (.neg (.var 5)) (.bin .mul (.int 2) (.var 19)) (.var 5)) (LD ns dr fi n ten N W g code st R a b Q x td (some (.int (ci less))) (some (.int (ci cr))) (some (.int E)) (some (.int S)) (some (.int (ci lf))) s21)).bind _)).bind _) = _
  rw [c]
  cases (decide (-N ≤ 2 * S) && decide (2 * S < N)) <;> rcases hs with rfl | ⟨_, rfl⟩ <;> kernel_rfl
theorem t13_4 (hN : 0 < N) : exL cls iInit theFuel cf b13_4 (LD ns dr fi n ten N W g code st R a b Q x td (some (.int (ci less))) (some (.int (ci cr))) (some (.int E)) (some (.int S)) (some (.int (ci lf))) (some (.int (ci ov)))) = some (.next, LD ns dr fi n ten N (E % N) g code st R a b Q x td (some (.int (ci less))) (some (.int (ci cr))) (some (.int E)) (some (.int S)) (some (.int (ci lf))) (some (.int (ci ov)))) := by
  unfold b13_4
  rw [exL_asg, mod_i (x := E) (by kernel_rfl) (y := N) (by kernel_rfl) hN]
  kernel_rfl
theorem t13_5 (hO : ∀ (ten : Bool) (n : Nat) (w : Int), n ≤ 4 → cf 0 [.int w, .int (n : Int), .int (cond ten 1 0)] = some (.ints (digL ten n w))) (hn : n < 4) (hst : st.length ≤ 100) : exL cls iInit theFuel cf b13_5 (LD ns dr fi n ten N W g code st R a b Q x td (some (.int (ci less))) (some (.int (ci cr))) (some (.int E)) (some (.int S)) (some (.int (ci lf))) (some (.int (ci ov)))) = some (.next, LD ns dr fi n ten N W g code (st ++ [[.int (768 + (code.length : Int)), .ints (digL ten (n + 1) W), .int (ci lf), .int (ci ov)]]) R a b Q x td (some (.int (ci less))) (some (.int (ci cr))) (some (.int E)) (some (.int S)) (some (.int (ci lf))) (some (.int (ci ov)))) := by
  generalize hρ : LD ns dr fi n ten N W g code st R a b Q x td (some (.int (ci less))) (some (.int (ci cr))) (some (.int E)) (some (.int S)) (some (.int (ci lf))) (some (.int (ci ov))) = ρ
  have e1 : evL cf (.bin .add (.int 768) (.len (.var 8))) ρ = some (.int (768 + (code.length : Int))) := add_i int_i (by rw [← hρ]; kernel_rfl)
  have e2 : evL cf (.call 0 (.cons (.var 6) (.cons (.var 3) (.cons (.var 4) .nil)))) ρ = some (.ints (digL ten (n + 1) W)) := call_oct hO hn (by rw [← hρ]; kernel_rfl)
  have e3 : evLs cf (.cons (.var 20) (.cons (.var 21) .nil)) ρ = some [.int (ci lf), .int (ci ov)] := by rw [← hρ]; kernel_rfl
  have e4 : evL cf (.tup b13_5e) ρ = some (.tup [.int (768 + (code.length : Int)), .ints (digL ten (n + 1) W), .int (ci lf), .int (ci ov)]) := by
    show (evLs cf b13_5e ρ).bind _ = _
    unfold b13_5e
    rw [evLs_cons, e1, evLs_cons, e2, e3]
    kernel_rfl
  have e0 : exL cls iInit theFuel cf b13_5 ρ = (ρ.at 9).bind fun u => u.ownR?.bind fun xs => (evL cf (.tup b13_5e) ρ).bind fun w => w.tup?.bind fun t => cond (Nat.blt xs.length lim) ((setL ρ 9 (.ownR (xs ++ [t]))).map fun ρ' => (LFl.next, ρ')) none := by kernel_rfl
  rw [e0, e4, show ρ.at 9 = some (.ownR st) by rw [← hρ]; kernel_rfl, Option.bind_some, show (LV.ownR st).ownR? = some st from rfl, Option.bind_some, Option.bind_some]
  show cond (Nat.blt st.length lim) _ _ = _
  rw [show Nat.blt st.length lim = true from Nat.ble_eq_true_of_le (by rw [lim_eq]; lia), cond_true, ← hρ]
  kernel_rfl
theorem turn13 (hO : ∀ (ten : Bool) (n : Nat) (w : Int), n ≤ 4 → cf 0 [.int w, .int (n : Int), .int (cond ten 1 0)] = some (.ints (digL ten n w))) (hS : ∀ w N : Int, cf 1 [.int w, .int N] = some (.int (sgN N w))) (hn : n < 4) (hN : 0 < N) {e : En} (he : e.pl < 6) {c d : Int}
    (hs : (s16 = none ∧ s17 = none ∧ Sl s18 s19 s20 s21) ∨ ∃ p q, s16 = some (.int p) ∧ s17 = some (.int q) ∧ Sl s18 s19 s20 s21) (hc : code.length ≤ 1000) (hst : st.length ≤ 100) :
    ∃ ρ₁ s16' s17' s18' s19' s20' s21', bindTg (.many [14, 13, 16, 17]) (.tup e.row) (LD ns dr fi n ten N W g code st R a b c d td s16 s17 s18 s19 s20 s21) = some ρ₁ ∧ exLs cls iInit theFuel cf b13 ρ₁ = some (.next, LD ns dr fi n ten N (nextW N W e) g (code ++ enCode ten n e) (st ++ [stopRow ten n N (768 + (code.length : Int)) W e]) R a b e.Q ((16 + 4 * e.pl : Nat) : Int) td (some (.int s16')) (some (.int s17')) (some (.int s18')) (some (.int s19')) (some (.int s20')) (some (.int s21'))) := by
  have hs' : Sl s18 s19 s20 s21 := by rcases hs with ⟨_, _, h⟩ | ⟨_, _, _, _, h⟩ <;> exact h
  have bd : bindTg (.many [14, 13, 16, 17]) (.tup e.row) (LD ns dr fi n ten N W g code st R a b c d td s16 s17 s18 s19 s20 s21) = some (LD ns dr fi n ten N W g code st R a b e.Q ((16 + 4 * e.pl : Nat) : Int) td (some (.int (ci e.less))) (some (.int (ci e.cr))) s18 s19 s20 s21) := by
    rcases hs with ⟨rfl, rfl, h⟩ | ⟨p, q, rfl, rfl, h⟩ <;> rcases h with ⟨rfl, rfl, rfl, rfl⟩ | ⟨_, _, _, _, rfl, rfl, rfl, rfl⟩ <;> kernel_rfl
  refine ⟨_, ci e.less, ci e.cr, sm e.less W e.Q e.cr, sS e.less N W e.Q e.cr, ci (leftB e.less N W e.Q e.cr), ci (overB e.less N W e.Q e.cr), bd, ?_⟩
  have k0 := t13_0 (cf := cf) (ns := ns) (dr := dr) (fi := fi) (n := n) (ten := ten) (N := N) (W := W) (g := g) (code := code) (st := st) (R := R) (a := a) (b := b) (Q := e.Q) (x := ((16 + 4 * e.pl : Nat) : Int)) (td := td) (less := e.less) (cr := e.cr) hs' hc
  have k1 := t13_1 (cf := cf) (ns := ns) (dr := dr) (fi := fi) (n := n) (ten := ten) (N := N) (W := W) (g := g) (code := code ++ [cond ten 248 216, cond e.cr 56 24, 162, 256 - ((n + 1 : Nat) : Int)]) (st := st) (R := R) (a := a) (b := b) (Q := e.Q) (td := td) (less := e.less) (cr := e.cr) (k := e.pl) hn he hs' (by rw [List.length_append]; show _ + 4 ≤ _; lia)
  rw [List.append_assoc] at k1
  obtain ⟨s21', h21, k2⟩ := t13_2 (cf := cf) (ns := ns) (dr := dr) (fi := fi) (n := n) (ten := ten) (N := N) (W := W) (g := g) (code := code ++ enCode ten n e) (st := st) (R := R) (a := a) (b := b) (Q := e.Q) (x := ((16 + 4 * e.pl : Nat) : Int)) (td := td) (less := e.less) (cr := e.cr) hS hs'
  have k3 := t13_3 (cf := cf) (ns := ns) (dr := dr) (fi := fi) (n := n) (ten := ten) (N := N) (W := W) (g := g) (code := code ++ enCode ten n e) (st := st) (R := R) (a := a) (b := b) (Q := e.Q) (x := ((16 + 4 * e.pl : Nat) : Int)) (td := td) (less := e.less) (cr := e.cr) (E := sm e.less W e.Q e.cr) (S := sS e.less N W e.Q e.cr) (lf := leftB e.less N W e.Q e.cr) h21
  have k4 := t13_4 (cf := cf) (ns := ns) (dr := dr) (fi := fi) (n := n) (ten := ten) (N := N) (W := W) (g := g) (code := code ++ enCode ten n e) (st := st) (R := R) (a := a) (b := b) (Q := e.Q) (x := ((16 + 4 * e.pl : Nat) : Int)) (td := td) (less := e.less) (cr := e.cr) (E := sm e.less W e.Q e.cr) (S := sS e.less N W e.Q e.cr) (lf := leftB e.less N W e.Q e.cr) (ov := overB e.less N W e.Q e.cr) hN
  have k5 := t13_5 (cf := cf) (ns := ns) (dr := dr) (fi := fi) (n := n) (ten := ten) (N := N) (W := nextW N W e) (g := g) (code := code ++ enCode ten n e) (st := st) (R := R) (a := a) (b := b) (Q := e.Q) (x := ((16 + 4 * e.pl : Nat) : Int)) (td := td) (less := e.less) (cr := e.cr) (E := sm e.less W e.Q e.cr) (S := sS e.less N W e.Q e.cr) (lf := leftB e.less N W e.Q e.cr) (ov := overB e.less N W e.Q e.cr) hO hn hst
  rw [show (768 : Int) + ((code ++ enCode ten n e).length : Int) = 768 + (code.length : Int) + 13 by rw [List.length_append, show (enCode ten n e).length = 13 from rfl]; lia] at k5
  rw [b13_eq]
  exact (exLs_go k0).trans ((exLs_go k1).trans ((exLs_go k2).trans ((exLs_go k3).trans ((exLs_go k4).trans ((exLs_go k5).trans (by kernel_rfl))))))
end
end Mine

end
section
open PySem PySem.W PyProof.Rows
set_option maxRecDepth 100000
set_option maxHeartbeats 0
set_option linter.unusedSimpArgs false
set_option linter.unusedVariables false
namespace Mine
noncomputable def codeL (ten : Bool) (n : Nat) : List En → List Int
  | [] => []
  | e :: r => enCode ten n e ++ codeL ten n r
noncomputable def stL (ten : Bool) (n : Nat) (N : Int) : Int → Int → List En → List (List At)
  | _, _, [] => []
  | b, W, e :: r => stopRow ten n N b W e :: stL ten n N (b + 13) (nextW N W e) r
noncomputable def finW (N : Int) : Int → List En → Int
  | W, [] => W
  | W, e :: r => finW N (nextW N W e) r
section
variable {cf : Nat → List LV → Option LV} {ns dr : List Int} {fi N a b : Int} {n : Nat} {ten : Bool} {g : Nat → Int} {ρ ρ' : LLoc} {R td : List (List At)}
theorem loop13 (hO : ∀ (ten : Bool) (n : Nat) (w : Int), n ≤ 4 → cf 0 [.int w, .int (n : Int), .int (cond ten 1 0)] = some (.ints (digL ten n w))) (hS : ∀ w N : Int, cf 1 [.int w, .int N] = some (.int (sgN N w))) (hn : n < 4) (hN : 0 < N) : ∀ (l : List En) (W c d : Int) (code : List Int) (st : List (List At)) (s16 s17 s18 s19 s20 s21 : Option LV),
    (∀ e ∈ l, e.pl < 6) → code.length + 13 * l.length ≤ 1000 → st.length + l.length ≤ 100 → ((s16 = none ∧ s17 = none ∧ Sl s18 s19 s20 s21) ∨ ∃ p q, s16 = some (.int p) ∧ s17 = some (.int q) ∧ Sl s18 s19 s20 s21) →
    ∃ (c' d' : Int) (s16' s17' s18' s19' s20' s21' : Option LV), forL (bindTg (.many [14, 13, 16, 17])) (fun ρ => exLs cls iInit theFuel cf b13 ρ) ((l.map En.row).map LV.tup) (LD ns dr fi n ten N W g code st R a b c d td s16 s17 s18 s19 s20 s21) = some (.next, LD ns dr fi n ten N (finW N W l) g (code ++ codeL ten n l) (st ++ stL ten n N (768 + (code.length : Int)) W l) R a b c' d' td s16' s17' s18' s19' s20' s21') ∧
      (l ≠ [] ∨ (IntS s16 ∧ IntS s17 ∧ IntS s18 ∧ IntS s19 ∧ IntS s20 ∧ IntS s21) → IntS s16' ∧ IntS s17' ∧ IntS s18' ∧ IntS s19' ∧ IntS s20' ∧ IntS s21')
  | [], W, c, d, code, st, s16, s17, s18, s19, s20, s21, hp, hc, hst, hs => ⟨c, d, s16, s17, s18, s19, s20, s21, by
      show some _ = _
      rw [show code ++ codeL ten n [] = code from List.append_nil _, show st ++ stL ten n N (768 + (code.length : Int)) W [] = st from List.append_nil _]; rfl, fun h => h.resolve_left (fun q => q rfl)⟩
  | e :: l, W, c, d, code, st, s16, s17, s18, s19, s20, s21, hp, hc, hst, hs => by
    have hc' : code.length + 13 * (l.length + 1) ≤ 1000 := hc
    have hst' : st.length + (l.length + 1) ≤ 100 := hst
    obtain ⟨ρ₁, p16, p17, p18, p19, p20, p21, b1, b2⟩ := turn13 (ns := ns) (dr := dr) (fi := fi) (W := W) (g := g) (ten := ten) (R := R) (a := a) (b := b) (td := td) (c := c) (d := d) (code := code) (st := st) hO hS hn hN (hp e List.mem_cons_self) hs (by lia) (by lia)
    have el : (code ++ enCode ten n e).length = code.length + 13 := by rw [List.length_append]; rfl
    obtain ⟨c', d', s16', s17', s18', s19', s20', s21', h1, h2⟩ := loop13 hO hS hn hN l (nextW N W e) e.Q ((16 + 4 * e.pl : Nat) : Int) (code ++ enCode ten n e) (st ++ [stopRow ten n N (768 + (code.length : Int)) W e]) (some (.int p16)) (some (.int p17)) (some (.int p18)) (some (.int p19)) (some (.int p20)) (some (.int p21)) (fun e h => hp e (List.mem_cons_of_mem _ h)) (by rw [el]; lia) (by rw [List.length_append]; show _ + 1 + _ ≤ _; lia) (.inr ⟨_, _, rfl, rfl, .inr ⟨_, _, _, _, rfl, rfl, rfl, rfl⟩⟩)
    refine ⟨c', d', s16', s17', s18', s19', s20', s21', ?_, fun _ => h2 (.inr ⟨⟨_, rfl⟩, ⟨_, rfl⟩, ⟨_, rfl⟩, ⟨_, rfl⟩, ⟨_, rfl⟩, ⟨_, rfl⟩⟩)⟩
    refine (forL_go (r := (l.map En.row).map LV.tup) b1 b2).trans (h1.trans ?_)
    rw [el, List.append_assoc, List.append_assoc, show (768 : Int) + ((code.length + 13 : Nat) : Int) = 768 + (code.length : Int) + 13 by lia]
    rfl
theorem h13 {es : List En} {W c d : Int} (hO : ∀ (ten : Bool) (n : Nat) (w : Int), n ≤ 4 → cf 0 [.int w, .int (n : Int), .int (cond ten 1 0)] = some (.ints (digL ten n w))) (hS : ∀ w N : Int, cf 1 [.int w, .int N] = some (.int (sgN N w))) (hn : n < 4) (hN : 0 < N) (hp : ∀ e ∈ es, e.pl < 6) (hl : 1 ≤ es.length ∧ es.length ≤ 12) :
    ∃ c' d' p q r s t u : Int, exL cls iInit theFuel cf s_law_13 (LD ns dr fi n ten N W g [] [] R a b c d (es.map En.row) none none none none none none) = some (.next, LD ns dr fi n ten N (finW N W es) g (codeL ten n es) (stL ten n N 768 W es) R a b c' d' (es.map En.row) (some (.int p)) (some (.int q)) (some (.int r)) (some (.int s)) (some (.int t)) (some (.int u))) := by
  obtain ⟨c', d', s16', s17', s18', s19', s20', s21', h1, h2⟩ := loop13 (ns := ns) (dr := dr) (fi := fi) (g := g) (ten := ten) (R := R) (a := a) (b := b) (td := es.map En.row) hO hS hn hN es W c d [] [] none none none none none none hp (by show 0 + _ ≤ _; lia) (by show 0 + _ ≤ _; lia) (.inl ⟨rfl, rfl, .inl ⟨rfl, rfl, rfl, rfl⟩⟩)
  obtain ⟨⟨p, rfl⟩, ⟨q, rfl⟩, ⟨r, rfl⟩, ⟨s, rfl⟩, ⟨t, rfl⟩, ⟨u, rfl⟩⟩ := h2 (.inl fun z => by rw [z] at hl; exact absurd hl.1 (by decide))
  refine ⟨c', d', p, q, r, s, t, u, ?_⟩
  have e0 : exL cls iInit theFuel cf (.for (.many [14, 13, 16, 17]) (.lst (.var 15)) b13) (LD ns dr fi n ten N W g [] [] R a b c d (es.map En.row) none none none none none none) = forL (bindTg (.many [14, 13, 16, 17])) (fun ρ => exLs cls iInit theFuel cf b13 ρ) ((es.map En.row).map LV.tup) (LD ns dr fi n ten N W g [] [] R a b c d (es.map En.row) none none none none none none) := by kernel_rfl
  rw [s13_eq, e0]
  exact h1
end
end Mine

end
section
open PySem PySem.W PyProof.Rows
set_option maxRecDepth 100000
set_option maxHeartbeats 0
set_option linter.unusedSimpArgs false
set_option linter.unusedVariables false
namespace Mine
noncomputable def lay (g : Nat → Int) (l : List Int) : Nat → Int := fun k => if 768 ≤ k then (l[k - 768]?).getD (g k) else g k
theorem lay_low {g : Nat → Int} {l : List Int} {k : Nat} (h : k < 768) : lay g l k = g k := if_neg (by lia)
theorem lay_at {g : Nat → Int} {l : List Int} {k : Nat} (h : k < l.length) : lay g l (768 + k) = l[k] := by
  unfold lay
  rw [if_pos (by lia), show 768 + k - 768 = k by lia, List.getElem?_eq_getElem h]; rfl
theorem putSl_lay {g : Nat → Int} {l : List Int} (hl : 768 + l.length ≤ 1024) : putSl (T g) (some 768) (some (768 + (l.length : Int))) l = T (lay g l) := by
  have c1 : clipAt 1024 768 = 768 := clip (a := 768) (by decide)
  have c2 : clipAt 1024 (768 + (l.length : Int)) = 768 + l.length := (congrArg (clipAt 1024) (by lia : (768 : Int) + (l.length : Int) = ((768 + l.length : Nat) : Int))).trans (clip hl)
  have e : putSl (T g) (some 768) (some (768 + (l.length : Int))) l = (T g).take 768 ++ l ++ (T g).drop (768 + l.length) := by
    show (T g).take (clipAt (T g).length 768) ++ _ ++ (T g).drop (max (clipAt (T g).length 768) (clipAt (T g).length (768 + (l.length : Int)))) = _
    rw [T_len, c1, c2, Nat.max_eq_right (by lia)]
  rw [e]
  have lt : ((T g).take 768).length = 768 := by rw [List.length_take, T_len]; rfl
  apply List.ext_getElem?
  intro j
  by_cases h1 : j < 768
  · rw [List.append_assoc, List.getElem?_append_left (by lia), List.getElem?_take_of_lt h1, T_get (by lia), T_get (by lia), lay_low h1]
  · by_cases h2 : j < 768 + l.length
    · rw [List.getElem?_append_left (by rw [List.length_append, lt]; lia), List.getElem?_append_right (by lia), lt, T_get (by lia)]
      have := lay_at (g := g) (l := l) (k := j - 768) (by lia)
      rw [show 768 + (j - 768) = j by lia] at this
      rw [this, List.getElem?_eq_getElem]
    · rw [List.getElem?_append_right (by rw [List.length_append, lt]; lia), List.length_append, lt, List.getElem?_drop, show 768 + l.length + (j - (768 + l.length)) = j by lia]
      by_cases h3 : j < 1024
      · rw [T_get h3, T_get h3]
        unfold lay
        rw [if_pos (by lia), List.getElem?_eq_none (by lia)]; rfl
      · rw [List.getElem?_eq_none (by rw [T_len]; lia), List.getElem?_eq_none (by rw [T_len]; lia)]
theorem cut_all {xs : List Int} : cutI xs none none = xs := by
  show (xs.drop 0).take (xs.length - 0) = xs
  rw [List.drop_zero, Nat.sub_zero, List.take_length]
noncomputable def LE5 (ns dr : List Int) (fi : Int) (n : Nat) (ten : Bool) (N W : Int) (mem code : List Int) (st R : List (List At)) (a b c d : Int) (td : List (List At)) (p q r s t u : Int) (s22 s23 : Option LV) : LLoc :=
  [some (.ints ns), some (.int fi), some (.ints dr), some (.int ((n + 1 : Nat) : Int)), some (.int (cond ten 1 0)), some (.int N), some (.int W), some (.own mem), some (.ints code), some (.ownR st), some (.rows R), some (.int a), some (.int b), some (.int c), some (.int d), some (.rows td), some (.int p), some (.int q), some (.int r), some (.int s), some (.int t), some (.int u), s22, s23, none, none, none, none]
noncomputable def LM (ns dr : List Int) (fi : Int) (n : Nat) (ten : Bool) (N W : Int) (code : List Int) (stV : LV) (R : List (List At)) (a b c d : Int) (td : List (List At)) (p q r s t v : Int) (bg pn : List Int) (u : Y) (e : Int) (ad : V) (s25 s26 s27 : Option LV) : LLoc :=
  [some (.ints ns), some (.int fi), some (.ints dr), some (.int ((n + 1 : Nat) : Int)), some (.int (cond ten 1 0)), some (.int N), some (.int W), some (.own u.mem), some (.ints code), some stV, some (.rows R), some (.int a), some (.int b), some (.int c), some (.int d), some (.rows td), some (.int p), some (.int q), some (.int r), some (.int s), some (.int t), some (.int v), some (.ints bg), some (.own pn), some (.mpu { (u.m e ad (.int 768)) with mem := [] } 7), s25, s26, s27]
noncomputable def Y0 (m : List Int) : Y := ⟨768, 0, 0, 0, 255, false, false, true, false, false, false, false, 0, m⟩
section
variable {cf : Nat → List LV → Option LV} {ns dr code : List Int} {fi N W W0 a b c d p q r s t v : Int} {n : Nat} {ten : Bool} {g : Nat → Int} {R td st : List (List At)}
theorem h14 (hn : n < 4) (hW : Has ten g 8 (n + 1) W0) : exL cls iInit theFuel cf s_law_14 (LE5 ns dr fi n ten N W (T g) code st R a b c d td p q r s t v none none) = some (.next, LE5 ns dr fi n ten N W (T g) code st R a b c d td p q r s t v (some (.ints (digL ten (n + 1) W0))) none) := by
  have e : exL cls iInit theFuel cf s_law_14 (LE5 ns dr fi n ten N W (T g) code st R a b c d td p q r s t v none none) = some (.next, LE5 ns dr fi n ten N W (T g) code st R a b c d td p q r s t v (some (.ints (cutI (T g) (some 8) (some (8 + ((n + 1 : Nat) : Int)))))) none) := by kernel_rfl
  have h := cut_dig (k := 8) hW (by lia)
  rw [show (((8 : Nat) : Int)) = 8 from rfl, show ((8 + (n + 1) : Nat) : Int) = 8 + ((n + 1 : Nat) : Int) by lia] at h
  rw [e, h]
theorem h15 {s22 : List Int} (hl : code.length ≤ 256) : exL cls iInit theFuel cf s_law_15 (LE5 ns dr fi n ten N W (T g) code st R a b c d td p q r s t v (some (.ints s22)) none) = some (.next, LE5 ns dr fi n ten N W (T (lay g code)) code st R a b c d td p q r s t v (some (.ints s22)) none) := by
  refine slp_ok (xs := T g) (ys := code) (a := 768) (b := 768 + (code.length : Int)) (by kernel_rfl) (by kernel_rfl) (add_i int_i (by kernel_rfl)) (by kernel_rfl) (by rw [T_len, lim_eq]; lia) ?_
  rw [putSl_lay (by lia)]; kernel_rfl
theorem h16 {s22 : List Int} : exL cls iInit theFuel cf s_law_16 (LE5 ns dr fi n ten N W (T g) code st R a b c d td p q r s t v (some (.ints s22)) none) = some (.next, LE5 ns dr fi n ten N W (T g) code st R a b c d td p q r s t v (some (.ints s22)) (some (.own (T g)))) := by
  have e : exL cls iInit theFuel cf s_law_16 (LE5 ns dr fi n ten N W (T g) code st R a b c d td p q r s t v (some (.ints s22)) none) = some (.next, LE5 ns dr fi n ten N W (T g) code st R a b c d td p q r s t v (some (.ints s22)) (some (.own (cutI (T g) none none)))) := by kernel_rfl
  rw [e, cut_all]
theorem h17 {s22 : List Int} : exL cls iInit theFuel cf s_law_17 (LE5 ns dr fi n ten N W (T g) code st R a b c d td p q r s t v (some (.ints s22)) (some (.own (T g)))) =
    some (.next, LM ns dr fi n ten N W code (.ownR st) R a b c d td p q r s t v s22 (T g) (Y0 (T g)) 0 (.bool false) none none none) := by
  have e0 : exL cls iInit theFuel cf s_law_17 (LE5 ns dr fi n ten N W (T g) code st R a b c d td p q r s t v (some (.ints s22)) (some (.own (T g)))) =
    ((callM cls deep iInit [.memr, .int 768] { unsetM with mem := T g }).bind fun r' => cond (r'.1.isNone && true && !Nat.beq 24 7 && Nat.ble r'.2.mem.length lim) (backL (LE5 ns dr fi n ten N W (T g) code st R a b c d td p q r s t v (some (.ints s22)) (some (.own (T g)))) 24 7 r'.2) none).map fun ρ' => (.next, ρ') := by kernel_rfl
  have e1 : callM cls deep iInit [.memr, .int 768] { unsetM with mem := T g } = some (.none, (Y0 (T g)).m 0 (.bool false) (.int 768)) := by kernel_rfl
  rw [e0, e1, Option.bind_some]
  have e2 : (V.none.isNone && true && !Nat.beq 24 7 && Nat.ble ((Y0 (T g)).m 0 (.bool false) (.int 768)).mem.length lim) = true := by
    show (true && true && true && Nat.ble (T g).length lim) = true
    rw [T_len]; rfl
  dsimp only
  rw [e2, cond_true]; kernel_rfl
end
end Mine

end
section
open PySem PySem.W PyProof.Rows
set_option maxRecDepth 100000
set_option maxHeartbeats 0
set_option linter.unusedSimpArgs false
set_option linter.unusedVariables false
namespace Mine
section
variable {cf : Nat → List LV → Option LV} {ns dr code bg pn L : List Int} {fi N W a b c d p q r s t v e Z : Int} {n : Nat} {ten : Bool} {R td ss : List (List At)} {ad : V} {u u' : Y} {stV : LV} {s25 s26 s27 : Option LV}
theorem stepM (sp : Stp u u') (hl : u'.mem.length = 1024) :
    ∃ e' ad', exL cls iInit theFuel cf (.step 24 1) (LM ns dr fi n ten N W code stV R a b c d td p q r s t v bg pn u e ad s25 s26 s27) = some (.next, LM ns dr fi n ten N W code stV R a b c d td p q r s t v bg pn u' e' ad' s25 s26 s27) := by
  obtain ⟨e', ad', h⟩ := sp e ad (.int 768)
  refine ⟨e', ad', ?_⟩
  rw [exL_step]
  have e0 : stepL cls (LM ns dr fi n ten N W code stV R a b c d td p q r s t v bg pn u e ad s25 s26 s27) 24 1 = (callM cls deep 1 [] (u.m e ad (.int 768))).bind fun r' => cond (Nat.ble r'.2.mem.length lim) (backL (LM ns dr fi n ten N W code stV R a b c d td p q r s t v bg pn u e ad s25 s26 s27) 24 7 r'.2) none := by kernel_rfl
  have h : callM cls deep 1 [] (u.m e ad (.int 768)) = some (.self, u'.m e' ad' (.int 768)) := h
  rw [e0, h, Option.bind_some]
  dsimp only
  rw [show (u'.m e' ad' (.int 768)).mem = u'.mem from rfl, hl, show Nat.ble 1024 lim = true by kernel_rfl, cond_true]
  kernel_rfl
noncomputable def inB : LSs := (.cons (.ite (.cmp .eq (.attr 24 .pc) (.var 25)) (.cons .brk .nil) .nil) (.cons (.step 24 1) .nil))
theorem inner {k : Nat} (Rn : Run Z k u u') (hz : u'.pc = Z) : ∀ (i m : Nat) (e : Int) (ad : V) (s27 : Option LV), k < m → (s27 = none ∨ ∃ x, s27 = some (.int x)) →
    ∃ e' ad' x, forL (bindTg (.one 27)) (fun ρ => exLs cls iInit theFuel cf inB ρ) ((List.range' i m).map fun i : Nat => LV.int (i : Int)) (LM ns dr fi n ten N W code (.rows ss) R a b c d td p q r s t v bg pn u e ad (some (.int Z)) (some (.ints L)) s27) = some (.next, LM ns dr fi n ten N W code (.rows ss) R a b c d td p q r s t v bg pn u' e' ad' (some (.int Z)) (some (.ints L)) (some (.int x))) := by
  induction Rn with
  | refl u =>
    intro i m e ad s27 hm hs
    obtain ⟨m, rfl⟩ : ∃ m', m = m' + 1 := ⟨m - 1, by lia⟩
    refine ⟨e, ad, (i : Int), ?_⟩
    rw [List.range'_succ, List.map_cons]
    refine forL_brk (ρ₁ := LM ns dr fi n ten N W code (.rows ss) R a b c d td p q r s t v bg pn u e ad (some (.int Z)) (some (.ints L)) (some (.int (i : Int)))) ?_ ?_
    · rcases hs with rfl | ⟨_, rfl⟩ <;> kernel_rfl
    · refine exLs_brk ?_
      rw [exL_ite, show evL cf (.cmp .eq (.attr 24 .pc) (.var 25)) (LM ns dr fi n ten N W code (.rows ss) R a b c d td p q r s t v bg pn u e ad (some (.int Z)) (some (.ints L)) (some (.int (i : Int)))) = some (.bool (COp.ev .eq u.pc Z)) by kernel_rfl, show COp.ev .eq u.pc Z = true from decide_eq_true hz]
      kernel_rfl
  | @step u u₁ u₂ k hq sp _ hl ih =>
    intro i m e ad s27 hm hs
    obtain ⟨m, rfl⟩ : ∃ m', m = m' + 1 := ⟨m - 1, by lia⟩
    obtain ⟨e1, ad1, h1⟩ := stepM (cf := cf) (ns := ns) (dr := dr) (fi := fi) (n := n) (ten := ten) (N := N) (W := W) (code := code) (stV := .rows ss) (R := R) (a := a) (b := b) (c := c) (d := d) (td := td) (p := p) (q := q) (r := r) (s := s) (t := t) (v := v) (bg := bg) (pn := pn) (e := e) (ad := ad) (s25 := some (.int Z)) (s26 := some (.ints L)) (s27 := some (.int (i : Int))) sp hl
    obtain ⟨e2, ad2, x, h2⟩ := ih hz (i + 1) m e1 ad1 (some (.int (i : Int))) (by lia) (.inr ⟨_, rfl⟩)
    refine ⟨e2, ad2, x, ?_⟩
    rw [List.range'_succ, List.map_cons]
    refine (forL_go (ρ₁ := LM ns dr fi n ten N W code (.rows ss) R a b c d td p q r s t v bg pn u e ad (some (.int Z)) (some (.ints L)) (some (.int (i : Int)))) (ρ₂ := LM ns dr fi n ten N W code (.rows ss) R a b c d td p q r s t v bg pn u₁ e1 ad1 (some (.int Z)) (some (.ints L)) (some (.int (i : Int)))) ?_ ?_).trans h2
    · rcases hs with rfl | ⟨_, rfl⟩ <;> kernel_rfl
    · unfold inB
      have h0 : exL cls iInit theFuel cf (.ite (.cmp .eq (.attr 24 .pc) (.var 25)) (.cons .brk .nil) .nil) (LM ns dr fi n ten N W code (.rows ss) R a b c d td p q r s t v bg pn u e ad (some (.int Z)) (some (.ints L)) (some (.int (i : Int)))) = some (.next, LM ns dr fi n ten N W code (.rows ss) R a b c d td p q r s t v bg pn u e ad (some (.int Z)) (some (.ints L)) (some (.int (i : Int)))) := by
        rw [exL_ite, show evL cf (.cmp .eq (.attr 24 .pc) (.var 25)) (LM ns dr fi n ten N W code (.rows ss) R a b c d td p q r s t v bg pn u e ad (some (.int Z)) (some (.ints L)) (some (.int (i : Int)))) = some (.bool (COp.ev .eq u.pc Z)) by kernel_rfl, show COp.ev .eq u.pc Z = false from decide_eq_false hq]
        kernel_rfl
      rw [exLs_go h0, exLs_go h1]
      kernel_rfl
end
end Mine

end
section
open PySem PySem.W PyProof.Rows
set_option maxRecDepth 100000
set_option maxHeartbeats 0
set_option linter.unusedSimpArgs false
set_option linter.unusedVariables false
namespace Mine
theorem pk_c2 : ∀ n v bb d i z c, (pk n v bb d i z c).fmod 2 = ci c := by decide +kernel
theorem pk_d2 : ∀ n v bb d i z c, ((pk n v bb d i z c).fdiv 8).fmod 2 = ci d := by decide +kernel
theorem pk_v2 : ∀ n v bb d i z c, ((pk n v bb d i z c).fdiv 64).fmod 2 = ci v := by decide +kernel
section
variable {cf : Nat → List LV → Option LV} {ns dr code bg pn L : List Int} {fi N W a b c d p q r s e Z x : Int} {n : Nat} {ten lf ov : Bool} {R td ss : List (List At)} {ad : V} {u : Y} {ρ : LLoc}
theorem or3_f {e1 e2 e3 : LE} (h1 : evL cf e1 ρ = some (.bool false)) (h2 : evL cf e2 ρ = some (.bool false)) (h3 : evL cf e3 ρ = some (.bool false)) : evL cf (.or3 e1 e2 e3) ρ = some (.bool false) := by
  have e0 : evL cf (.or3 e1 e2 e3) ρ = (evL cf e1 ρ).bind fun x => x.bool?.bind fun q => cond q (some (.bool true)) ((evL cf e2 ρ).bind fun y => y.bool?.bind fun r => cond r (some (.bool true)) (evL cf e3 ρ)) := by kernel_rfl
  rw [e0, h1, h2, h3]; rfl
theorem ne_f {e1 e2 : LE} {x : Int} (h1 : evL cf e1 ρ = some (.int x)) (h2 : evL cf e2 ρ = some (.int x)) : evL cf (.cmp .ne e1 e2) ρ = some (.bool false) := by
  have e0 : evL cf (.cmp .ne e1 e2) ρ = (evL cf e1 ρ).bind fun x => (evL cf e2 ρ).bind fun y => (cmpV .ne x y).map LV.bool := by kernel_rfl
  rw [e0, h1, h2]
  show some (LV.bool (COp.ev .ne x x)) = _
  rw [show COp.ev .ne x x = false from by show (!decide (x = x)) = false; rw [decide_eq_true rfl]; rfl]
theorem ite_f {t : LE} {A : LSs} (h : evL cf t ρ = some (.bool false)) : exL cls iInit theFuel cf (.ite t A .nil) ρ = some (.next, ρ) := by
  rw [exL_ite, h]; kernel_rfl
noncomputable def ck1 : LE := .or3 (.cmp .ne (.attr 24 .pc) (.var 25)) (.cmp .ne (.slc (.own 7) (.int 8) (.bin .add (.int 8) (.var 3))) (.var 26)) (.cmp .ne (.bin .mod (.attr 24 .p) (.int 2)) (.var 20))
noncomputable def ck2 : LE := .or3 (.cmp .ne (.attr 24 .a) (.idx (.var 26) (.neg (.int 1)))) (.cmp .ne (.attr 24 .x) (.int 0)) (.cmp .ne (.bin .mod (.bin .fdiv (.attr 24 .p) (.int 8)) (.int 2)) (.var 4))
noncomputable def ck3 : LE := .and (.not (.var 4)) (.cmp .ne (.bin .mod (.bin .fdiv (.attr 24 .p) (.int 64)) (.int 2)) (.var 21))
theorem ck1_f {g : Nat → Int} {W1 : Int} (hn : n < 4) (h1 : u.pc = Z) (hm : u.mem = T g) (hW : Has ten g 8 (n + 1) W1) (hc : u.c = lf) : evL cf ck1 (LM ns dr fi n ten N W code (.rows ss) R a b c d td p q r s (ci lf) (ci ov) bg pn u e ad (some (.int Z)) (some (.ints (digL ten (n + 1) W1))) (some (.int x))) = some (.bool false) := by
  refine or3_f (ne_f (x := Z) (by rw [← h1]; kernel_rfl) (by kernel_rfl)) ?_ (ne_f (x := ci lf) ?_ (by kernel_rfl))
  · have h := cut_dig (k := 8) hW (by lia)
    rw [show (((8 : Nat) : Int)) = 8 from rfl, show ((8 + (n + 1) : Nat) : Int) = 8 + ((n + 1 : Nat) : Int) by lia] at h
    have e0 : evL cf (.cmp .ne (.slc (.own 7) (.int 8) (.bin .add (.int 8) (.var 3))) (.var 26)) (LM ns dr fi n ten N W code (.rows ss) R a b c d td p q r s (ci lf) (ci ov) bg pn u e ad (some (.int Z)) (some (.ints (digL ten (n + 1) W1))) (some (.int x))) = some (.bool (!(cutI u.mem (some 8) (some (8 + ((n + 1 : Nat) : Int))) == digL ten (n + 1) W1))) := by kernel_rfl
    rw [e0, hm, h, beq_self_eq_true]; rfl
  · have e0 : evL cf (.bin .mod (.attr 24 .p) (.int 2)) (LM ns dr fi n ten N W code (.rows ss) R a b c d td p q r s (ci lf) (ci ov) bg pn u e ad (some (.int Z)) (some (.ints (digL ten (n + 1) W1))) (some (.int x))) = some (.int ((pk u.n u.v u.bb u.d u.i u.z u.c).fmod 2)) := by kernel_rfl
    rw [e0, pk_c2, hc]
theorem digL_last {ten : Bool} : ∀ {n : Nat} {w : Int}, (digL ten (n + 1) w)[n]? = some (lst ten n w)
  | 0, w => rfl
  | n + 1, w => by
    show (en ten (w % Bs ten) :: digL ten (n + 1) (w / Bs ten))[n + 1]? = _
    rw [List.getElem?_cons_succ, digL_last]; rfl
theorem pick_last {w : Int} : pick (digL ten (n + 1) w) (-1) = some (lst ten n w) := by
  unfold pick
  rw [if_neg (by decide), digL_len, if_pos (by lia), show (-1 + ((n + 1 : Nat) : Int)).toNat = n by lia, digL_last]
theorem ck2_f {W1 : Int} (h1 : u.a = lst ten n W1) (hx : u.x = 0) (hd : u.d = ten) : evL cf ck2 (LM ns dr fi n ten N W code (.rows ss) R a b c d td p q r s (ci lf) (ci ov) bg pn u e ad (some (.int Z)) (some (.ints (digL ten (n + 1) W1))) (some (.int x))) = some (.bool false) := by
  refine or3_f (ne_f (x := lst ten n W1) (by rw [← h1]; kernel_rfl) ?_) (ne_f (x := 0) (by rw [← hx]; kernel_rfl) (by kernel_rfl)) (ne_f (x := ci ten) ?_ (by kernel_rfl))
  · have e0 : evL cf (.idx (.var 26) (.neg (.int 1))) (LM ns dr fi n ten N W code (.rows ss) R a b c d td p q r s (ci lf) (ci ov) bg pn u e ad (some (.int Z)) (some (.ints (digL ten (n + 1) W1))) (some (.int x))) = (pick (digL ten (n + 1) W1) (-1)).map LV.int := by kernel_rfl
    rw [e0, pick_last]; rfl
  · have e0 : evL cf (.bin .mod (.bin .fdiv (.attr 24 .p) (.int 8)) (.int 2)) (LM ns dr fi n ten N W code (.rows ss) R a b c d td p q r s (ci lf) (ci ov) bg pn u e ad (some (.int Z)) (some (.ints (digL ten (n + 1) W1))) (some (.int x))) = some (.int (((pk u.n u.v u.bb u.d u.i u.z u.c).fdiv 8).fmod 2)) := by kernel_rfl
    rw [e0, pk_d2, hd]
theorem ck3_f {W1 : Int} (hv : ten = false → u.v = ov) : evL cf ck3 (LM ns dr fi n ten N W code (.rows ss) R a b c d td p q r s (ci lf) (ci ov) bg pn u e ad (some (.int Z)) (some (.ints (digL ten (n + 1) W1))) (some (.int x))) = some (.bool false) := by
  cases ten
  · have h3 : evL cf (.cmp .ne (.bin .mod (.bin .fdiv (.attr 24 .p) (.int 64)) (.int 2)) (.var 21)) (LM ns dr fi n false N W code (.rows ss) R a b c d td p q r s (ci lf) (ci ov) bg pn u e ad (some (.int Z)) (some (.ints (digL false (n + 1) W1))) (some (.int x))) = some (.bool false) := by
      refine ne_f (x := ci ov) ?_ (by kernel_rfl)
      have e0 : evL cf (.bin .mod (.bin .fdiv (.attr 24 .p) (.int 64)) (.int 2)) (LM ns dr fi n false N W code (.rows ss) R a b c d td p q r s (ci lf) (ci ov) bg pn u e ad (some (.int Z)) (some (.ints (digL false (n + 1) W1))) (some (.int x))) = some (.int (((pk u.n u.v u.bb u.d u.i u.z u.c).fdiv 64).fmod 2)) := by kernel_rfl
      rw [e0, pk_v2, hv rfl]
    have e1 : evL cf ck3 (LM ns dr fi n false N W code (.rows ss) R a b c d td p q r s (ci lf) (ci ov) bg pn u e ad (some (.int Z)) (some (.ints (digL false (n + 1) W1))) (some (.int x))) = evL cf (.cmp .ne (.bin .mod (.bin .fdiv (.attr 24 .p) (.int 64)) (.int 2)) (.var 21)) (LM ns dr fi n false N W code (.rows ss) R a b c d td p q r s (ci lf) (ci ov) bg pn u e ad (some (.int Z)) (some (.ints (digL false (n + 1) W1))) (some (.int x))) := by kernel_rfl
    rw [e1, h3]
  · kernel_rfl
end
end Mine

end
section
open PySem PySem.W PyProof.Rows
set_option maxRecDepth 100000
set_option maxHeartbeats 0
set_option linter.unusedSimpArgs false
set_option linter.unusedVariables false
namespace Mine
noncomputable def rF : LSs := .cons (.ret (.bool false)) .nil
noncomputable def b18 : LSs := .cons (.for (.one 27) (.rng (.int 30)) inB) (.cons (.ite ck1 rF .nil) (.cons (.ite ck2 rF .nil) (.cons (.ite ck3 rF .nil) .nil)))
theorem s18_eq : s_law_18 = .frz 9 (.for (.many [25, 26, 20, 21]) (.lst (.var 9)) b18) := by kernel_rfl
section
variable {cf : Nat → List LV → Option LV} {ns dr code bg pn : List Int} {fi W a b c d p q r s t v e x : Int} {n : Nat} {ten : Bool} {R td ss : List (List At)} {ad : V} {u : Y} {g : Nat → Int}
noncomputable def S3 (s25 s26 s27 : Option LV) : Prop := (s25 = none ∧ s26 = none ∧ s27 = none) ∨ ∃ a l b, s25 = some (.int a) ∧ s26 = some (.ints l) ∧ s27 = some (.int b)
theorem turn18 {k : Nat} {Wc : Int} {en : En} {s25 s26 s27 : Option LV} (hn : n < 4) (hb : 768 ≤ k ∧ k + 13 < 1024) (hs : S3 s25 s26 s27) (hW : 0 ≤ Wc ∧ Wc < Bs ten ^ (n + 1)) (ok : en.ok ten n g) (cd : Cod g k (enCode ten n en)) (hp : u.pc = (k : Int)) (hm : u.mem = T (put ten g 8 (n + 1) Wc)) :
    ∃ u' e' ad' x', (∃ ρ₁, bindTg (.many [25, 26, 20, 21]) (.tup (stopRow ten n (Bs ten ^ (n + 1)) (k : Int) Wc en)) (LM ns dr fi n ten (Bs ten ^ (n + 1)) W code (.rows ss) R a b c d td p q r s t v bg pn u e ad s25 s26 s27) = some ρ₁ ∧
      exLs cls iInit theFuel cf b18 ρ₁ = some (.next, LM ns dr fi n ten (Bs ten ^ (n + 1)) W code (.rows ss) R a b c d td p q r s (ci (leftB en.less (Bs ten ^ (n + 1)) Wc en.Q en.cr)) (ci (overB en.less (Bs ten ^ (n + 1)) Wc en.Q en.cr)) bg pn u' e' ad' (some (.int ((k : Int) + 13))) (some (.ints (digL ten (n + 1) (nextW (Bs ten ^ (n + 1)) Wc en)))) (some (.int x')))) ∧
      u'.pc = (k : Int) + 13 ∧ u'.mem = T (put ten g 8 (n + 1) (nextW (Bs ten ^ (n + 1)) Wc en)) := by
  obtain ⟨pc, ua, ux, uy, usp, un, uv, ubb, ud, ui, uz, uc, ucyc, um⟩ := u
  obtain rfl : pc = (k : Int) := hp
  obtain rfl : um = T (put ten g 8 (n + 1) Wc) := hm
  have cd' : Cod (put ten g 8 (n + 1) Wc) k (enCode ten n en) := fun j hj => (put_out (by lia)).trans (cd j hj)
  obtain ⟨okp, okq, okh⟩ := ok
  have hQ : Has ten (put ten g 8 (n + 1) Wc) (16 + 4 * en.pl + (n + 1) - (n + 1)) (n + 1) en.Q := by rw [Nat.add_sub_cancel]; exact has_put okh (by lia)
  obtain ⟨n', v', cyc', rn, hv⟩ := entry (b := k) (A := 8 + (n + 1)) (S := 16 + 4 * en.pl + (n + 1)) (n := n) (a := ua) (x := ux) (y := uy) (sp := usp) (cyc := ucyc) (P := Wc) (Q := en.Q) (fn := un) (fv := uv) (bb := ubb) (d := ud) (i := ui) (z := uz) (c := uc) (ten := ten) (less := en.less) (cr := en.cr) (g := put ten g 8 (n + 1) Wc)
    hb (by lia) hn (by lia) cd' (by rw [Nat.add_sub_cancel]; exact put_has) hQ
  rw [Nat.add_sub_cancel, put_put, co_eq hW okq, ← lst_mod (w := sm en.less Wc en.Q en.cr), ← put_mod (w := sm en.less Wc en.Q en.cr)] at rn
  rw [show sm en.less Wc en.Q en.cr % Bs ten ^ (n + 1) = nextW (Bs ten ^ (n + 1)) Wc en from rfl, show cond en.less (decide (0 ≤ sm en.less Wc en.Q en.cr)) (decide (Bs ten ^ (n + 1) ≤ sm en.less Wc en.Q en.cr)) = leftB en.less (Bs ten ^ (n + 1)) Wc en.Q en.cr from rfl] at rn
  have hov : ten = false → v' = overB en.less (Bs ten ^ (n + 1)) Wc en.Q en.cr := fun h => by subst h; rw [hv rfl, ovr_eq hW okq]; rfl
  have bd : ∃ s27', (s27' = none ∨ ∃ x, s27' = some (.int x)) ∧ bindTg (.many [25, 26, 20, 21]) (.tup (stopRow ten n (Bs ten ^ (n + 1)) (k : Int) Wc en)) (LM ns dr fi n ten (Bs ten ^ (n + 1)) W code (.rows ss) R a b c d td p q r s t v bg pn ⟨(k : Int), ua, ux, uy, usp, un, uv, ubb, ud, ui, uz, uc, ucyc, T (put ten g 8 (n + 1) Wc)⟩ e ad s25 s26 s27) = some (LM ns dr fi n ten (Bs ten ^ (n + 1)) W code (.rows ss) R a b c d td p q r s (ci (leftB en.less (Bs ten ^ (n + 1)) Wc en.Q en.cr)) (ci (overB en.less (Bs ten ^ (n + 1)) Wc en.Q en.cr)) bg pn ⟨(k : Int), ua, ux, uy, usp, un, uv, ubb, ud, ui, uz, uc, ucyc, T (put ten g 8 (n + 1) Wc)⟩ e ad (some (.int ((k : Int) + 13))) (some (.ints (digL ten (n + 1) (nextW (Bs ten ^ (n + 1)) Wc en)))) s27') := by
    rcases hs with ⟨rfl, rfl, rfl⟩ | ⟨x1, l1, x2, rfl, rfl, rfl⟩
    · exact ⟨none, .inl rfl, by kernel_rfl⟩
    · exact ⟨_, .inr ⟨x2, rfl⟩, by kernel_rfl⟩
  obtain ⟨s27', hs27, bd⟩ := bd
  obtain ⟨e1, ad1, x1, h1⟩ := inner (cf := cf) (ns := ns) (dr := dr) (fi := fi) (n := n) (ten := ten) (N := Bs ten ^ (n + 1)) (W := W) (code := code) (ss := ss) (R := R) (a := a) (b := b) (c := c) (d := d) (td := td) (p := p) (q := q) (r := r) (s := s) (t := ci (leftB en.less (Bs ten ^ (n + 1)) Wc en.Q en.cr)) (v := ci (overB en.less (Bs ten ^ (n + 1)) Wc en.Q en.cr)) (bg := bg) (pn := pn) (L := digL ten (n + 1) (nextW (Bs ten ^ (n + 1)) Wc en)) rn rfl 0 30 e ad s27' (by lia) hs27
  refine ⟨⟨(k : Int) + 13, lst ten n (nextW (Bs ten ^ (n + 1)) Wc en), 0, uy, usp, n', v', ubb, ten, ui, true, leftB en.less (Bs ten ^ (n + 1)) Wc en.Q en.cr, cyc', T (put ten g 8 (n + 1) (nextW (Bs ten ^ (n + 1)) Wc en))⟩, e1, ad1, x1, ⟨_, bd, ?_⟩, rfl, rfl⟩
  have h0 : ∀ ρ, exL cls iInit theFuel cf (.for (.one 27) (.rng (.int 30)) inB) ρ = forL (bindTg (.one 27)) (fun ρ => exLs cls iInit theFuel cf inB ρ) ((List.range' 0 30).map fun i : Nat => LV.int (i : Int)) ρ := fun ρ => by
    rw [exL_for, show evSrc cf (.rng (.int 30)) ρ = some ((List.range' 0 30).map fun i : Nat => LV.int (i : Int)) by kernel_rfl, Option.bind_some]
  unfold b18
  refine (exLs_go ((h0 _).trans h1)).trans ?_
  refine (exLs_go (ite_f (ck1_f (W1 := nextW (Bs ten ^ (n + 1)) Wc en) hn rfl rfl put_has rfl))).trans ?_
  refine (exLs_go (ite_f (ck2_f (W1 := nextW (Bs ten ^ (n + 1)) Wc en) rfl rfl rfl))).trans ?_
  refine (exLs_go (ite_f (ck3_f (W1 := nextW (Bs ten ^ (n + 1)) Wc en) hov))).trans ?_
  kernel_rfl
end
end Mine

end
section
open PySem PySem.W PyProof.Rows
set_option maxRecDepth 100000
set_option maxHeartbeats 0
set_option linter.unusedSimpArgs false
set_option linter.unusedVariables false
namespace Mine
noncomputable def CodL (ten : Bool) (n : Nat) (g : Nat → Int) : Nat → List En → Prop
  | _, [] => True
  | k, e :: r => Cod g k (enCode ten n e) ∧ CodL ten n g (k + 13) r
section
variable {cf : Nat → List LV → Option LV} {ns dr code bg pn : List Int} {fi W a b c d p q r s : Int} {n : Nat} {ten : Bool} {R td ss : List (List At)} {g : Nat → Int}
theorem next_ok {N Wc : Int} {e : En} (h : 0 < N) : 0 ≤ nextW N Wc e ∧ nextW N Wc e < N := ⟨Int.emod_nonneg _ (Int.ne_of_gt h), Int.emod_lt_of_pos _ h⟩
theorem loop18 (hn : n < 4) : ∀ (l : List En) (k : Nat) (Wc t v e : Int) (ad : V) (u : Y) (s25 s26 s27 : Option LV), 768 ≤ k → k + 13 * l.length < 1024 → S3 s25 s26 s27 → (0 ≤ Wc ∧ Wc < Bs ten ^ (n + 1)) → (∀ e ∈ l, e.ok ten n g) → CodL ten n g k l → u.pc = (k : Int) → u.mem = T (put ten g 8 (n + 1) Wc) →
    ∃ (u' : Y) (e' : Int) (ad' : V) (t' v' : Int) (s25' s26' s27' : Option LV), forL (bindTg (.many [25, 26, 20, 21])) (fun ρ => exLs cls iInit theFuel cf b18 ρ) ((stL ten n (Bs ten ^ (n + 1)) (k : Int) Wc l).map LV.tup) (LM ns dr fi n ten (Bs ten ^ (n + 1)) W code (.rows ss) R a b c d td p q r s t v bg pn u e ad s25 s26 s27) = some (.next, LM ns dr fi n ten (Bs ten ^ (n + 1)) W code (.rows ss) R a b c d td p q r s t' v' bg pn u' e' ad' s25' s26' s27') ∧ u'.mem = T (put ten g 8 (n + 1) (finW (Bs ten ^ (n + 1)) Wc l))
  | [], k, Wc, t, v, e, ad, u, s25, s26, s27, hk, hl, hs, hW, ok, cd, hp, hm => ⟨u, e, ad, t, v, s25, s26, s27, rfl, hm⟩
  | en :: l, k, Wc, t, v, e, ad, u, s25, s26, s27, hk, hl, hs, hW, ok, cd, hp, hm => by
    have hl' : k + 13 * (l.length + 1) < 1024 := hl
    obtain ⟨u1, e1, ad1, x1, ⟨ρ₁, b1, b2⟩, p1, m1⟩ := turn18 (cf := cf) (ns := ns) (dr := dr) (fi := fi) (W := W) (code := code) (ss := ss) (R := R) (a := a) (b := b) (c := c) (d := d) (td := td) (p := p) (q := q) (r := r) (s := s) (t := t) (v := v) (bg := bg) (pn := pn) (e := e) (ad := ad) hn ⟨hk, by lia⟩ hs hW (ok en List.mem_cons_self) cd.1 hp hm
    obtain ⟨u', e', ad', t', v', s25', s26', s27', h1, h2⟩ := loop18 hn l (k + 13) (nextW (Bs ten ^ (n + 1)) Wc en) _ _ e1 ad1 u1 _ _ _ (by lia) (by lia) (.inr ⟨_, _, _, rfl, rfl, rfl⟩) (next_ok pow_pos') (fun e h => ok e (List.mem_cons_of_mem _ h)) cd.2 (by rw [p1]; lia) m1
    exact ⟨u', e', ad', t', v', s25', s26', s27', (forL_go b1 b2).trans h1, h2⟩
end
end Mine

end
section
open PySem PySem.W PyProof.Rows
set_option maxRecDepth 100000
set_option maxHeartbeats 0
set_option linter.unusedSimpArgs false
set_option linter.unusedVariables false
namespace Mine
theorem finW_app {N : Int} : ∀ (l r : List En) (W : Int), finW N W (l ++ r) = finW N (finW N W l) r
  | [], r, W => rfl
  | e :: l, r, W => finW_app l r _
theorem undo1 {N W : Int} {e : En} (h : 0 ≤ W ∧ W < N) : nextW N (nextW N W e) e.inv = W := by
  obtain ⟨pl, Q, less, cr⟩ := e
  have hw : W % N = W := Int.emod_eq_of_lt h.1 h.2
  cases less <;> cases cr
  · show (((W + Q + 0) % N) - Q - (1 - 1)) % N = W
    rw [show (W + Q + 0) % N - Q - (1 - 1) = (W + Q + 0) % N + (-Q) by lia, Int.emod_add_emod, show W + Q + 0 + -Q = W by lia, hw]
  · show (((W + Q + 1) % N) - Q - (1 - 0)) % N = W
    rw [show (W + Q + 1) % N - Q - (1 - 0) = (W + Q + 1) % N + (-Q - 1) by lia, Int.emod_add_emod, show W + Q + 1 + (-Q - 1) = W by lia, hw]
  · show (((W - Q - (1 - 0)) % N) + Q + 1) % N = W
    rw [show (W - Q - (1 - 0)) % N + Q + 1 = (W - Q - (1 - 0)) % N + (Q + 1) by lia, Int.emod_add_emod, show W - Q - (1 - 0) + (Q + 1) = W by lia, hw]
  · show (((W - Q - (1 - 1)) % N) + Q + 0) % N = W
    rw [show (W - Q - (1 - 1)) % N + Q + 0 = (W - Q - (1 - 1)) % N + Q by lia, Int.emod_add_emod, show W - Q - (1 - 1) + Q = W by lia, hw]
theorem undo {N : Int} (hN : 0 < N) : ∀ (es : List En) (W : Int), 0 ≤ W ∧ W < N → finW N W (todo es) = W
  | [], W, h => rfl
  | e :: es, W, h => by
    have e0 : todo (e :: es) = e :: (todo es ++ [e.inv]) := by
      unfold todo
      rw [List.map_cons, List.reverse_cons, List.cons_append, ← List.append_assoc]
    rw [e0]
    show finW N (nextW N W e) (todo es ++ [e.inv]) = W
    rw [finW_app, undo hN es _ (next_ok hN)]
    exact undo1 h
end Mine

end
section
open PySem PySem.W PyProof.Rows
set_option maxRecDepth 100000
set_option maxHeartbeats 0
set_option linter.unusedSimpArgs false
set_option linter.unusedVariables false
namespace Mine
theorem codeL_len {ten : Bool} {n : Nat} : ∀ {l : List En}, (codeL ten n l).length = 13 * l.length
  | [] => rfl
  | e :: l => by
    show (enCode ten n e ++ codeL ten n l).length = 13 * (l.length + 1)
    rw [List.length_append, codeL_len, show (enCode ten n e).length = 13 from rfl]; lia
theorem cod_lay {ten : Bool} {n : Nat} {g : Nat → Int} : ∀ (l : List En) (pre : List Int), CodL ten n (lay g (pre ++ codeL ten n l)) (768 + pre.length) l
  | [], pre => trivial
  | e :: l, pre => by
    have h := cod_lay (ten := ten) (n := n) (g := g) l (pre ++ enCode ten n e)
    have el : (enCode ten n e).length = 13 := rfl
    rw [List.append_assoc, List.length_append, el, ← Nat.add_assoc] at h
    refine ⟨fun k hk => ?_, h⟩
    have hlt : pre.length + k < (pre ++ codeL ten n (e :: l)).length := by rw [List.length_append, codeL_len, List.length_cons]; lia
    have e2 : (pre ++ codeL ten n (e :: l))[pre.length + k]? = (enCode ten n e)[k]? := by
      show (pre ++ (enCode ten n e ++ codeL ten n l))[pre.length + k]? = _
      rw [List.getElem?_append_right (by lia), Nat.add_sub_cancel_left, List.getElem?_append_left (by lia)]
    rw [Nat.add_assoc, lay_at hlt, List.getD_eq_getElem?_getD, ← e2, List.getElem?_eq_getElem hlt]; rfl
end Mine

end
section
open PySem PySem.W PyProof.Rows
set_option maxRecDepth 100000
set_option maxHeartbeats 0
set_option linter.unusedSimpArgs false
set_option linter.unusedVariables false
namespace Mine
theorem upd_self {g : Nat → Int} {k : Nat} : upd g k (g k) = g := funext fun j => by
  by_cases e : j = k
  · rw [e, upd_eq]
  · rw [upd_ne e]
theorem put_id {ten : Bool} : ∀ {n k : Nat} {w : Int} {g : Nat → Int}, Has ten g k n w → put ten g k n w = g
  | 0, k, w, g, h => rfl
  | n + 1, k, w, g, h => by
    show put ten (upd g k (en ten (w % Bs ten))) (k + 1) n (w / Bs ten) = g
    rw [← h.1, upd_self]
    exact put_id h.2
theorem has_lay {ten : Bool} {g : Nat → Int} {l : List Int} {k n : Nat} {w : Int} (hk : k + n ≤ 768) (h : Has ten g k n w) : Has ten (lay g l) k n w := has_congr (fun j h1 h2 => lay_low (by lia)) h
theorem ok_lay {ten : Bool} {n : Nat} {g : Nat → Int} {l : List Int} {e : En} (hn : n < 4) (h : e.ok ten n g) : e.ok ten n (lay g l) := ⟨h.1, h.2.1, has_lay (by have := h.1; lia) h.2.2⟩
theorem ok_todo {ten : Bool} {n : Nat} {g : Nat → Int} {es : List En} (h : ∀ e ∈ es, e.ok ten n g) : ∀ e ∈ todo es, e.ok ten n g := fun e q => by
  rcases List.mem_append.mp q with q | q
  · exact h e q
  · obtain ⟨e', q', rfl⟩ := List.mem_map.mp (List.mem_reverse.mp q)
    exact h e' q'
theorem todo_len {es : List En} : (todo es).length = 2 * es.length := by
  unfold todo
  rw [List.length_append, List.length_reverse, List.length_map]; lia
section
variable {cf : Nat → List LV → Option LV} {ns dr code bg pn : List Int} {fi W W0 a b c d p q r s t v e : Int} {n : Nat} {ten : Bool} {R td ss : List (List At)} {ad : V} {u : Y} {g : Nat → Int} {s25 s26 s27 : Option LV}
theorem h18 {l : List En} (hn : n < 4) (hl : l.length ≤ 12) (hW : 0 ≤ W0 ∧ W0 < Bs ten ^ (n + 1)) (ok : ∀ e ∈ l, e.ok ten n g) (hH : Has ten g 8 (n + 1) W0) :
    ∃ (u' : Y) (e' : Int) (ad' : V) (t' v' : Int) (s25' s26' s27' : Option LV), exL cls iInit theFuel cf s_law_18 (LM ns dr fi n ten (Bs ten ^ (n + 1)) W code (.ownR (stL ten n (Bs ten ^ (n + 1)) 768 W0 l)) R a b c d td p q r s t v bg pn (Y0 (T (lay g (codeL ten n l)))) 0 (.bool false) none none none) = some (.next, LM ns dr fi n ten (Bs ten ^ (n + 1)) W code (.rows (stL ten n (Bs ten ^ (n + 1)) 768 W0 l)) R a b c d td p q r s t' v' bg pn u' e' ad' s25' s26' s27') ∧ u'.mem = T (put ten (lay g (codeL ten n l)) 8 (n + 1) (finW (Bs ten ^ (n + 1)) W0 l)) := by
  have hm : (Y0 (T (lay g (codeL ten n l)))).mem = T (put ten (lay g (codeL ten n l)) 8 (n + 1) W0) := by rw [put_id (has_lay (by lia) hH)]; rfl
  have cd : CodL ten n (lay g (codeL ten n l)) 768 l := cod_lay l []
  obtain ⟨u', e', ad', t', v', s25', s26', s27', h1, h2⟩ := loop18 (cf := cf) (ns := ns) (dr := dr) (fi := fi) (W := W) (code := code) (ss := stL ten n (Bs ten ^ (n + 1)) 768 W0 l) (R := R) (a := a) (b := b) (c := c) (d := d) (td := td) (p := p) (q := q) (r := r) (s := s) (bg := bg) (pn := pn) hn l 768 W0 t v 0 (.bool false) (Y0 (T (lay g (codeL ten n l)))) none none none (by lia) (by lia) (.inl ⟨rfl, rfl, rfl⟩) hW (fun e h => ok_lay hn (ok e h)) cd rfl hm
  refine ⟨u', e', ad', t', v', s25', s26', s27', ?_, h2⟩
  have e0 : ∀ st u, exL cls iInit theFuel cf (.frz 9 (.for (.many [25, 26, 20, 21]) (.lst (.var 9)) b18)) (LM ns dr fi n ten (Bs ten ^ (n + 1)) W code (.ownR st) R a b c d td p q r s t v bg pn u 0 (.bool false) none none none) = forL (bindTg (.many [25, 26, 20, 21])) (fun ρ => exLs cls iInit theFuel cf b18 ρ) (st.map LV.tup) (LM ns dr fi n ten (Bs ten ^ (n + 1)) W code (.rows st) R a b c d td p q r s t v bg pn u 0 (.bool false) none none none) := fun st u => by kernel_rfl
  rw [s18_eq, e0]
  exact h1
theorem eq_t {e1 e2 : LE} {xs : List Int} {ρ : LLoc} (h1 : evL cf e1 ρ = some (.ints xs)) (h2 : evL cf e2 ρ = some (.ints xs)) : evL cf (.cmp .eq e1 e2) ρ = some (.bool true) := by
  have e0 : evL cf (.cmp .eq e1 e2) ρ = (evL cf e1 ρ).bind fun x => (evL cf e2 ρ).bind fun y => (cmpV .eq x y).map LV.bool := by kernel_rfl
  rw [e0, h1, h2]
  show (eqOp .eq (xs == xs)).map LV.bool = _
  rw [beq_self_eq_true]; rfl
theorem h19 (hn : n < 4) (hm : u.mem = T g) (hH : Has ten g 8 (n + 1) W0) : exL cls iInit theFuel cf s_law_19 (LM ns dr fi n ten (Bs ten ^ (n + 1)) W code (.rows ss) R a b c d td p q r s t v (digL ten (n + 1) W0) (T g) u e ad s25 s26 s27) = some (.ret (.bool true), LM ns dr fi n ten (Bs ten ^ (n + 1)) W code (.rows ss) R a b c d td p q r s t v (digL ten (n + 1) W0) (T g) u e ad s25 s26 s27) := by
  generalize hρ : LM ns dr fi n ten (Bs ten ^ (n + 1)) W code (.rows ss) R a b c d td p q r s t v (digL ten (n + 1) W0) (T g) u e ad s25 s26 s27 = ρ
  have h := cut_dig (k := 8) hH (by lia)
  rw [show (((8 : Nat) : Int)) = 8 from rfl, show ((8 + (n + 1) : Nat) : Int) = 8 + ((n + 1 : Nat) : Int) by lia] at h
  have k1 : evL cf (.slc (.own 7) (.int 8) (.bin .add (.int 8) (.var 3))) ρ = some (.ints (digL ten (n + 1) W0)) := by
    rw [← h, ← hm, ← hρ]; kernel_rfl
  have k2 : evL cf (.own 7) ρ = some (.ints (T g)) := by rw [← hm, ← hρ]; kernel_rfl
  have q1 := eq_t k1 (e2 := .var 22) (by rw [← hρ]; kernel_rfl)
  have q2 := eq_t k2 (e2 := .own 23) (by rw [← hρ]; kernel_rfl)
  show exL cls iInit theFuel cf (.ret (.and (.cmp .eq (.slc (.own 7) (.int 8) (.bin .add (.int 8) (.var 3))) (.var 22)) (.cmp .eq (.own 7) (.own 23)))) ρ = _
  have e0 : ∀ a b, evL cf (.and a b) ρ = (evL cf a ρ).bind fun x => x.bool?.bind fun q => cond q (evL cf b ρ) (some (.bool false)) := fun a b => by kernel_rfl
  rw [exL_ret, e0, q1, q2]; rfl
end
end Mine

end
section
open PySem PySem.W PyProof.Rows
set_option maxRecDepth 100000
set_option maxHeartbeats 0
set_option linter.unusedSimpArgs false
set_option linter.unusedVariables false
namespace Mine
theorem fn_body : fn_law.body = .cons s_law_0 (.cons s_law_1 (.cons s_law_2 (.cons s_law_3 (.cons s_law_4 (.cons s_law_5 (.cons s_law_6 (.cons s_law_7 (.cons s_law_8 (.cons s_law_9 (.cons s_law_10 (.cons s_law_11 (.cons s_law_12 (.cons s_law_13 (.cons s_law_14 (.cons s_law_15 (.cons s_law_16 (.cons s_law_17 (.cons s_law_18 (.cons s_law_19 .nil))))))))))))))))))) := rfl
theorem law05 {ns : List Int} (hns : ns.length ≤ 63) : ∃ ρ', exLs cls iInit theFuel (callL cls iInit theFuel theF 3) fn_law.body (some (.ints ns) :: List.replicate (fn_law.vars.length - 1) none) = some (.ret (.bool true), ρ') := by
  have hO : ∀ (ten : Bool) (n : Nat) (w : Int), n ≤ 4 → callL cls iInit theFuel theF 3 0 [.int w, .int (n : Int), .int (cond ten 1 0)] = some (.ints (digL ten n w)) := fun ten n w h => octets (d := 2) h
  have hS : ∀ w N : Int, callL cls iInit theFuel theF 3 1 [.int w, .int N] = some (.int (sgN N w)) := fun w N => signed (d := 2)
  generalize callL cls iInit theFuel theF 3 = cf at hO hS ⊢
  obtain ⟨fi, k0⟩ := h0 (cf := cf) (ns := ns)
  obtain ⟨dr, hd, k1⟩ := h1 (cf := cf) (ns := ns) (fi := fi)
  obtain ⟨n, hn, k2⟩ := h2 (cf := cf) (ns := ns) (fi := fi) (dr := dr)
  obtain ⟨ten, k3⟩ := h3 (cf := cf) (ns := ns) (fi := fi) (dr := dr) (n := n)
  have k4 := h4 (cf := cf) (ns := ns) (fi := fi) (dr := dr) (ten := ten) hn
  obtain ⟨W, hW, k5⟩ := h5 (cf := cf) (ns := ns) (fi := fi) (dr := dr) (ten := ten) (n := n)
  have k6 := h6 (cf := cf) (ns := ns) (fi := fi) (dr := dr) (ten := ten) (n := n) (W := W)
  have k7 := h7 (ns := ns) (fi := fi) (dr := dr) (ten := ten) (W := W) (g := g00) hO hn
  have k8 : exL cls iInit theFuel cf s_law_8 (LA ns (some (.int fi)) (some (.ints dr)) (some (.int ((n + 1 : Nat) : Int))) (some (.int (cond ten 1 0))) (some (.int (Bs ten ^ (n + 1)))) (some (.int W)) (some (.own (T (put ten g00 8 (n + 1) W)))) none none none) = some (.next, (LA ns (some (.int fi)) (some (.ints dr)) (some (.int ((n + 1 : Nat) : Int))) (some (.int (cond ten 1 0))) (some (.int (Bs ten ^ (n + 1)))) (some (.int W)) (some (.own (T (put ten g00 8 (n + 1) W)))) (some (.ints [])) none none)) := by kernel_rfl
  have k9 : exL cls iInit theFuel cf s_law_9 (LA ns (some (.int fi)) (some (.ints dr)) (some (.int ((n + 1 : Nat) : Int))) (some (.int (cond ten 1 0))) (some (.int (Bs ten ^ (n + 1)))) (some (.int W)) (some (.own (T (put ten g00 8 (n + 1) W)))) (some (.ints [])) none none) = some (.next, (LA ns (some (.int fi)) (some (.ints dr)) (some (.int ((n + 1 : Nat) : Int))) (some (.int (cond ten 1 0))) (some (.int (Bs ten ^ (n + 1)))) (some (.int W)) (some (.own (T (put ten g00 8 (n + 1) W)))) (some (.ints [])) (some (.ownR [])) none)) := by kernel_rfl
  have k10 : exL cls iInit theFuel cf s_law_10 (LA ns (some (.int fi)) (some (.ints dr)) (some (.int ((n + 1 : Nat) : Int))) (some (.int (cond ten 1 0))) (some (.int (Bs ten ^ (n + 1)))) (some (.int W)) (some (.own (T (put ten g00 8 (n + 1) W)))) (some (.ints [])) (some (.ownR [])) none) = some (.next, (LB ns dr fi n ten W (put ten g00 8 (n + 1) W) (bkV []) none none none none)) := by kernel_rfl
  obtain ⟨g, es, a, b, c, d, k11, hes, ok, hH⟩ := h11 (ns := ns) (fi := fi) (dr := dr) (W := W) (g := put ten g00 8 (n + 1) W) hO hn hd put_has
  have k12 := h12 (cf := cf) (ns := ns) (fi := fi) (dr := dr) (ten := ten) (n := n) (W := W) (g := g) (a := a) (b := b) (c := c) (d := d) hes.2
  have ok' := ok_todo ok
  have tl : 1 ≤ (todo es).length ∧ (todo es).length ≤ 12 := by rw [todo_len]; lia
  obtain ⟨c', d', p, q, r, s, t, v, k13⟩ := h13 (ns := ns) (fi := fi) (dr := dr) (ten := ten) (g := g) (N := Bs ten ^ (n + 1)) (W := W) (R := (es.map fun e => e.inv.row).reverse) (a := a) (b := b) (c := c) (d := d) (es := todo es) hO hS hn pow_pos' (fun e h => (ok' e h).1) tl
  rw [undo pow_pos' es W hW] at k13
  have e13 : ∀ code st R td, LD ns dr fi n ten (Bs ten ^ (n + 1)) W g code st R a b c' d' td (some (.int p)) (some (.int q)) (some (.int r)) (some (.int s)) (some (.int t)) (some (.int v)) = LE5 ns dr fi n ten (Bs ten ^ (n + 1)) W (T g) code st R a b c' d' td p q r s t v none none := fun _ _ _ _ => rfl
  rw [e13] at k13
  have k14 := h14 (cf := cf) (ns := ns) (dr := dr) (fi := fi) (N := Bs ten ^ (n + 1)) (W := W) (code := codeL ten n (todo es)) (st := stL ten n (Bs ten ^ (n + 1)) 768 W (todo es)) (R := (es.map fun e => e.inv.row).reverse) (a := a) (b := b) (c := c') (d := d') (td := (todo es).map En.row) (p := p) (q := q) (r := r) (s := s) (t := t) (v := v) hn hH
  have k15 := h15 (cf := cf) (ns := ns) (dr := dr) (fi := fi) (n := n) (ten := ten) (N := Bs ten ^ (n + 1)) (W := W) (g := g) (code := codeL ten n (todo es)) (st := stL ten n (Bs ten ^ (n + 1)) 768 W (todo es)) (R := (es.map fun e => e.inv.row).reverse) (a := a) (b := b) (c := c') (d := d') (td := (todo es).map En.row) (p := p) (q := q) (r := r) (s := s) (t := t) (v := v) (s22 := digL ten (n + 1) W) (by rw [codeL_len]; lia)
  have k16 := h16 (cf := cf) (ns := ns) (dr := dr) (fi := fi) (n := n) (ten := ten) (N := Bs ten ^ (n + 1)) (W := W) (g := lay g (codeL ten n (todo es))) (code := codeL ten n (todo es)) (st := stL ten n (Bs ten ^ (n + 1)) 768 W (todo es)) (R := (es.map fun e => e.inv.row).reverse) (a := a) (b := b) (c := c') (d := d') (td := (todo es).map En.row) (p := p) (q := q) (r := r) (s := s) (t := t) (v := v) (s22 := digL ten (n + 1) W)
  have k17 := h17 (cf := cf) (ns := ns) (dr := dr) (fi := fi) (n := n) (ten := ten) (N := Bs ten ^ (n + 1)) (W := W) (g := lay g (codeL ten n (todo es))) (code := codeL ten n (todo es)) (st := stL ten n (Bs ten ^ (n + 1)) 768 W (todo es)) (R := (es.map fun e => e.inv.row).reverse) (a := a) (b := b) (c := c') (d := d') (td := (todo es).map En.row) (p := p) (q := q) (r := r) (s := s) (t := t) (v := v) (s22 := digL ten (n + 1) W)
  obtain ⟨u', e', ad', t', v', s25, s26, s27, k18, m18⟩ := h18 (cf := cf) (ns := ns) (dr := dr) (fi := fi) (W := W) (W0 := W) (g := g) (code := codeL ten n (todo es)) (R := (es.map fun e => e.inv.row).reverse) (a := a) (b := b) (c := c') (d := d') (td := (todo es).map En.row) (p := p) (q := q) (r := r) (s := s) (t := t) (v := v) (bg := digL ten (n + 1) W) (pn := T (lay g (codeL ten n (todo es)))) hn tl.2 hW ok' hH
  have hH' : Has ten (lay g (codeL ten n (todo es))) 8 (n + 1) W := has_lay (by lia) hH
  rw [undo pow_pos' es W hW, put_id hH'] at m18
  have k19 := h19 (cf := cf) (ns := ns) (dr := dr) (fi := fi) (W := W) (code := codeL ten n (todo es)) (ss := stL ten n (Bs ten ^ (n + 1)) 768 W (todo es)) (R := (es.map fun e => e.inv.row).reverse) (a := a) (b := b) (c := c') (d := d') (td := (todo es).map En.row) (p := p) (q := q) (r := r) (s := s) (t := t') (v := v') (e := e') (ad := ad') (s25 := s25) (s26 := s26) (s27 := s27) hn m18 hH'
  rw [fn_body]
  refine ⟨_, (exLs_go k0).trans ((exLs_go k1).trans ((exLs_go k2).trans ((exLs_go k3).trans ((exLs_go k4).trans ((exLs_go k5).trans ((exLs_go k6).trans ((exLs_go k7).trans ((exLs_go k8).trans ((exLs_go k9).trans ((exLs_go k10).trans ((exLs_go k11).trans ((exLs_go k12).trans ((exLs_go k13).trans ((exLs_go k14).trans ((exLs_go k15).trans ((exLs_go k16).trans ((exLs_go k17).trans ((exLs_go k18).trans (exLs_ret k19)))))))))))))))))))⟩
end Mine

end
section
open PySem PySem.W PyProof.Rows
set_option maxRecDepth 100000
set_option maxHeartbeats 0
namespace Mine
theorem row_done (said : rwN.row.wellSaid = true) : rwN.row.Holds :=
  row_holds (l := rwN) (H := HK) (d := dLaw) law_prog rfl rfl rfl left law_Xt law_def law_the law_kw law_dfl said law_ok law_bare law_can
    (law_run fun _ hn => law05 hn)
end Mine
theorem PySem.Challenge.cw_lr0005_05_holds : PySem.Challenge.rw_lr0005_05.Holds :=
  ⟨Mine.said_law, Mine.row_done Mine.said_row⟩

end
