import PyProof.Rows.All
import Wide.All
import OpenK.AllK
import Wide.FinOn
import KE.KLam
import KE.KRevSl
import KE.KPairComp
import KE.BitLaws
import Lean
import PySem.Challenge.RW_lr0005_04
set_option Elab.async false
set_option genInjectivity false
set_option genSizeOf false
set_option genSizeOfSpec false
section
open PySem PySem.W PyProof.Rows
set_option maxRecDepth 100000
set_option maxHeartbeats 0
namespace Mine
noncomputable def topGoT (tb : String → Option Builtin) (p : Program) (w : World) (n₀ : Nat) (ann : Option Value) : Nat → SharedT → Thread → Option (SharedT × Thread)
  | 0, s, t => some (s, t)
  | n + 1, s, t => match through t with
    | true => none
    | false => match stepOk n₀ ann t with
      | false => none
      | true => match stepT (denote tb) p w s t with
        | some (s', t') => topGoT tb p w n₀ ann n s' t'
        | none => none
noncomputable def topRunT (tb : String → Option Builtin) (p : Program) (w : World) (n₀ : Nat) (ann : Option Value) : Nat → SharedT → Thread → Option SharedT
  | 0, _, _ => none
  | n + 1, s, t => match through t with
    | true => some s
    | false => match stepOk n₀ ann t with
      | false => none
      | true => match stepT (denote tb) p w s t with
        | some (s', t') => topRunT tb p w n₀ ann n s' t'
        | none => none
section
variable {tb : String → Option Builtin} {p : Program} {w : World} {n₀ : Nat} {ann : Option Value}
theorem topGo_of : ∀ {n : Nat} {s s' : SharedT} {t t' : Thread}, topGoT tb p w n₀ ann n s t = some (s', t') → topGo tb p w n₀ ann n s.abs t = some (s'.abs, t')
  | 0, _, _, _, _, h => by cases h; rfl
  | n + 1, s, s', t, t', h => by
    unfold topGoT at h
    unfold topGo
    cases he : through t with
    | true => rw [he] at h; cases h
    | false =>
      rw [he] at h
      cases hk : stepOk n₀ ann t with
      | false => rw [hk] at h; cases h
      | true =>
        rw [hk] at h
        cases hs : stepT (denote tb) p w s t with
        | none => rw [hs] at h; cases h
        | some r => obtain ⟨s₂, t₂⟩ := r; rw [hs] at h; rw [stepT_spec hs]; exact topGo_of h
theorem topRun_of : ∀ {n : Nat} {s s' : SharedT} {t : Thread}, topRunT tb p w n₀ ann n s t = some s' → topRun tb p w n₀ ann n s.abs t = some s'.abs
  | 0, _, _, _, h => by cases h
  | n + 1, s, s', t, h => by
    unfold topRunT at h
    unfold topRun
    cases he : through t with
    | true => rw [he] at h; cases h; rfl
    | false =>
      rw [he] at h
      cases hk : stepOk n₀ ann t with
      | false => rw [hk] at h; cases h
      | true =>
        rw [hk] at h
        cases hs : stepT (denote tb) p w s t with
        | none => rw [hs] at h; cases h
        | some r => obtain ⟨s₂, t₂⟩ := r; rw [hs] at h; rw [stepT_spec hs]; exact topRun_of h
theorem goT_top {n N : Nat} {s s' : SharedT} {r : Shared} {t t' : Thread} (h : topGoT tb p w n₀ ann n s t = some (s', t')) (k : topRun tb p w n₀ ann N s'.abs t' = some r) : topRun tb p w n₀ ann (n + N) s.abs t = some r :=
  go_top (topGo_of h) k
end
structure SC where
  T : BT
  n : Nat
  life : Life
  gens : Array GenState
  drawn : Drawn
  toks : Nat
  os : OsState
  c : Nat
noncomputable def SC.s (x : SC) : SharedT := ⟨x.T, x.n, x.life, x.gens, x.drawn, x.toks, x.os⟩
noncomputable def SC.of (s : SharedT) (c : Nat) : SC := ⟨s.tree, s.n, s.life, s.gens, s.drawn, s.toks, s.os, c⟩
noncomputable def lookT (T : BT) (n a : Nat) : Option Obj := cond (Nat.blt a n) ((T.get a).bind alive) none
noncomputable def mayT (n₀ : Nat) (ann : Option Value) (a : Addr) : Bool := Nat.ble n₀ a || a == mainNs || a == cStatics || ann == some (.ref a)
noncomputable def drive (p : Program) (w : World) (n₀ : Nat) (ann : Option Value) {α : Type} : Sem α → SC → Option (α × SC)
  | .pure a, s => some (a, s)
  | .rule _ k, ⟨T, n, life, gens, drawn, toks, os, c⟩ => drive p w n₀ ann (k ()) ⟨T, n, life, gens, drawn, toks, os, c + 1⟩
  | .at _ k, ⟨T, n, life, gens, drawn, toks, os, c⟩ => drive p w n₀ ann (k ()) ⟨T, n, life, gens, drawn, toks, os, c + 1⟩
  | .point _ k, ⟨T, n, life, gens, drawn, toks, os, c⟩ => drive p w n₀ ann (k ()) ⟨T, n, life, gens, drawn, toks, os, c + 1⟩
  | .ask k, ⟨T, n, life, gens, drawn, toks, os, c⟩ => drive p w n₀ ann (k ⟨p, w.params⟩) ⟨T, n, life, gens, drawn, toks, os, c + 1⟩
  | .fresh k, ⟨T, n, life, gens, drawn, toks, os, c⟩ => drive p w n₀ ann (k toks) ⟨T, n, life, gens, drawn, toks + 1, os, c + 1⟩
  | .load a _ k, ⟨T, n, life, gens, drawn, toks, os, c⟩ => (lookT T n a).bind fun o => drive p w n₀ ann (k o) ⟨T, n, life, gens, drawn, toks, os, c + 1⟩
  | .update a _ f k, ⟨T, n, life, gens, drawn, toks, os, c⟩ => cond (mayT n₀ ann a) ((lookT T n a).bind fun _ => drive p w n₀ ann (k ()) ⟨T.set a f, n, life, gens, drawn, toks, os, c + 1⟩) none
  | .alloc o k, ⟨T, n, life, gens, drawn, toks, os, c⟩ => cond ((T.ins n o).get n).isSome (drive p w n₀ ann (k n) ⟨T.ins n o, n + 1, life, gens, drawn, toks, os, c + 1⟩) none
  | _, _ => none
theorem bindO {α β : Type} {o : Option α} {f : α → Option β} {r : β} (h : o.bind f = some r) : ∃ a, o = some a ∧ f a = some r := Option.bind_eq_some_iff.mp h
theorem condO {β : Type} {b : Bool} {o : Option β} {r : β} (h : cond b o none = some r) : b = true ∧ o = some r := by cases b; cases h; exact ⟨rfl, h⟩
theorem lookT_of {T : BT} {n a : Nat} {o : Obj} (h : lookT T n a = some o) : Nat.blt a n = true ∧ ∃ o', T.get a = some o' ∧ alive o' = some o := by
  obtain ⟨h1, h⟩ := condO h
  exact ⟨h1, bindO h⟩
section
variable {p : Program} {w : World} {n₀ : Nat} {ann : Option Value} {α β : Type}
section
variable {tb : String → Option Builtin} {T : BT} {n : Nat} {life : Life} {gens : Array GenState} {drawn : Drawn} {toks : Nat} {os : OsState} {code : Code} {pos : Pos} {fr : Frame} {fs : List Frame} {N : Nat}
theorem go_load {a : Addr} {q : Option Value} {k : Obj → Sem Fin} {o : Obj} (h : lookT T n a = some o) : topGoT tb p w n₀ ann (N + 1) ⟨T, n, life, gens, drawn, toks, os⟩ ⟨.load a q k, code, pos, fr :: fs⟩ = topGoT tb p w n₀ ann N ⟨T, n, life, gens, drawn, toks, os⟩ ⟨k o, code, pos, fr :: fs⟩ := by
  obtain ⟨h1, o', h2, h3⟩ := lookT_of h
  show (match stepT (denote tb) p w ⟨T, n, life, gens, drawn, toks, os⟩ ⟨.load a q k, code, pos, fr :: fs⟩ with | some (s', t') => topGoT tb p w n₀ ann N s' t' | none => none) = _
  simp only [stepT, h1, h2, h3]
theorem go_update {a : Addr} {q : Option Value} {f : Obj → Obj} {k : Unit → Sem Fin} {o : Obj} (h0 : mayT n₀ ann a = true) (h : lookT T n a = some o) : topGoT tb p w n₀ ann (N + 1) ⟨T, n, life, gens, drawn, toks, os⟩ ⟨.update a q f k, code, pos, fr :: fs⟩ = topGoT tb p w n₀ ann N ⟨T.set a f, n, life, gens, drawn, toks, os⟩ ⟨k (), code, pos, fr :: fs⟩ := by
  obtain ⟨h1, o', h2, h3⟩ := lookT_of h
  have hk : stepOk n₀ ann ⟨.update a q f k, code, pos, fr :: fs⟩ = true := h0
  show (match stepOk n₀ ann ⟨.update a q f k, code, pos, fr :: fs⟩ with | false => none | true => match stepT (denote tb) p w ⟨T, n, life, gens, drawn, toks, os⟩ ⟨.update a q f k, code, pos, fr :: fs⟩ with | some (s', t') => topGoT tb p w n₀ ann N s' t' | none => none) = _
  rw [hk]
  simp only [stepT, h1, h2, h3]
theorem go_alloc {o : Obj} {k : Addr → Sem Fin} (h : ((T.ins n o).get n).isSome = true) : topGoT tb p w n₀ ann (N + 1) ⟨T, n, life, gens, drawn, toks, os⟩ ⟨.alloc o k, code, pos, fr :: fs⟩ = topGoT tb p w n₀ ann N ⟨T.ins n o, n + 1, life, gens, drawn, toks, os⟩ ⟨k n, code, pos, fr :: fs⟩ := by
  show (match stepT (denote tb) p w ⟨T, n, life, gens, drawn, toks, os⟩ ⟨.alloc o k, code, pos, fr :: fs⟩ with | some (s', t') => topGoT tb p w n₀ ann N s' t' | none => none) = _
  simp only [stepT, h]
end
noncomputable def Goes (tb : String → Option Builtin) (p : Program) (w : World) (n₀ : Nat) (ann : Option Value) (m : Sem α) (s : SC) (a : α) (s' : SC) : Prop :=
  ∃ n, s'.c = s.c + n ∧ ∀ (k : α → Sem Fin) (code : Code) (pos : Pos) (fr : Frame) (fs : List Frame), ∃ pos', topGoT tb p w n₀ ann n s.s ⟨m.bind k, code, pos, fr :: fs⟩ = some (s'.s, ⟨k a, code, pos', fr :: fs⟩)
theorem Goes.step {tb : String → Option Builtin} {m m₁ : Sem α} {s s₁ s' : SC} {a : α} (g : Goes tb p w n₀ ann m₁ s₁ a s') (q : Pos → Pos) (hc : s₁.c = s.c + 1) (h : ∀ N (k : α → Sem Fin) code pos fr fs, topGoT tb p w n₀ ann (N + 1) s.s ⟨m.bind k, code, pos, fr :: fs⟩ = topGoT tb p w n₀ ann N s₁.s ⟨m₁.bind k, code, q pos, fr :: fs⟩) : Goes tb p w n₀ ann m s a s' := by
  obtain ⟨n, hc', hn⟩ := g
  exact ⟨n + 1, by omega, fun k code pos fr fs => by rw [h]; exact hn k code (q pos) fr fs⟩
theorem drive_goes {tb : String → Option Builtin} (m : Sem α) : ∀ (s : SC) (a : α) (s' : SC), drive p w n₀ ann m s = some (a, s') → Goes tb p w n₀ ann m s a s' := by
  induction m with
  | pure a => intro s b s' h; cases h; exact ⟨0, rfl, fun k code pos fr fs => ⟨pos, rfl⟩⟩
  | rule t k ih => rintro ⟨T, n, life, gens, drawn, toks, os, c⟩ b s' h; exact (ih () _ b s' h).step id rfl fun _ _ _ _ _ _ => rfl
  | «at» t k ih => rintro ⟨T, n, life, gens, drawn, toks, os, c⟩ b s' h; exact (ih () _ b s' h).step (fun _ => t) rfl fun _ _ _ _ _ _ => rfl
  | point t k ih => rintro ⟨T, n, life, gens, drawn, toks, os, c⟩ b s' h; exact (ih () _ b s' h).step id rfl fun _ _ _ _ _ _ => rfl
  | ask k ih => rintro ⟨T, n, life, gens, drawn, toks, os, c⟩ b s' h; exact (ih _ _ b s' h).step id rfl fun _ _ _ _ _ _ => rfl
  | fresh k ih => rintro ⟨T, n, life, gens, drawn, toks, os, c⟩ b s' h; exact (ih _ _ b s' h).step id rfl fun _ _ _ _ _ _ => rfl
  | load a q k ih =>
    rintro ⟨T, n, life, gens, drawn, toks, os, c⟩ b s' h
    obtain ⟨o, ho, h⟩ := bindO h
    exact (ih o _ b s' h).step id rfl fun _ _ _ _ _ _ => go_load ho
  | update a q f k ih =>
    rintro ⟨T, n, life, gens, drawn, toks, os, c⟩ b s' h
    obtain ⟨h0, h⟩ := condO h
    obtain ⟨o, ho, h⟩ := bindO h
    exact (ih () _ b s' h).step id rfl fun _ _ _ _ _ _ => go_update h0 ho
  | alloc o k ih =>
    rintro ⟨T, n, life, gens, drawn, toks, os, c⟩ b s' h
    obtain ⟨h0, h⟩ := condO h
    exact (ih _ _ b s' h).step id rfl fun _ _ _ _ _ _ => go_alloc h0
  | _ => intro s b s' h; cases h
theorem drive_keep (vs : List Value) (m : Sem α) : ∀ s : SC, drive p w n₀ ann (m.keep vs) s = drive p w n₀ ann m s := by
  induction m with
  | rule t k ih => rintro ⟨T, n, life, gens, drawn, toks, os, c⟩; exact ih () _
  | «at» t k ih => rintro ⟨T, n, life, gens, drawn, toks, os, c⟩; exact ih () _
  | point t k ih => rintro ⟨T, n, life, gens, drawn, toks, os, c⟩; exact ih () _
  | ask k ih => rintro ⟨T, n, life, gens, drawn, toks, os, c⟩; exact ih _ _
  | fresh k ih => rintro ⟨T, n, life, gens, drawn, toks, os, c⟩; exact ih _ _
  | load a q k ih => rintro ⟨T, n, life, gens, drawn, toks, os, c⟩; exact congrArg (Option.bind _) (funext fun o => ih o _)
  | update a q f k ih => rintro ⟨T, n, life, gens, drawn, toks, os, c⟩; exact congrArg (cond _ · _) (congrArg (Option.bind _) (funext fun o => ih () _))
  | alloc o k ih => rintro ⟨T, n, life, gens, drawn, toks, os, c⟩; exact congrArg (cond _ · _) (ih _ _)
  | _ => intro s; rfl
theorem drive_holding (vs : List Value) (m : Sem α) (s : SC) : drive p w n₀ ann (holding vs m) s = drive p w n₀ ann m s := by
  unfold holding; split
  · rfl
  · exact drive_keep _ _ _
theorem drive_onRaise (h : Value → Sem Unit) (m : Sem α) : ∀ (s : SC) (r : α × SC), drive p w n₀ ann m s = some r → drive p w n₀ ann (m.onRaise h) s = some r := by
  induction m with
  | pure a => exact fun s r e => e
  | rule t k ih => rintro ⟨T, n, life, gens, drawn, toks, os, c⟩ r e; exact ih () _ r e
  | «at» t k ih => rintro ⟨T, n, life, gens, drawn, toks, os, c⟩ r e; exact ih () _ r e
  | point t k ih => rintro ⟨T, n, life, gens, drawn, toks, os, c⟩ r e; exact ih () _ r e
  | ask k ih => rintro ⟨T, n, life, gens, drawn, toks, os, c⟩ r e; exact ih _ _ r e
  | fresh k ih => rintro ⟨T, n, life, gens, drawn, toks, os, c⟩ r e; exact ih _ _ r e
  | load a q k ih =>
    rintro ⟨T, n, life, gens, drawn, toks, os, c⟩ r e
    obtain ⟨o, ho, e⟩ := bindO e
    exact Option.bind_eq_some_iff.mpr ⟨o, ho, ih o _ r e⟩
  | update a q f k ih =>
    rintro ⟨T, n, life, gens, drawn, toks, os, c⟩ r e
    obtain ⟨h0, e⟩ := condO e
    obtain ⟨o, ho, e⟩ := bindO e
    show cond (mayT n₀ ann a) ((lookT T n a).bind fun _ => drive p w n₀ ann ((k ()).onRaise h) _) none = _
    rw [h0]
    exact Option.bind_eq_some_iff.mpr ⟨o, ho, ih () _ r e⟩
  | alloc o k ih =>
    rintro ⟨T, n, life, gens, drawn, toks, os, c⟩ r e
    obtain ⟨h0, e⟩ := condO e
    show cond _ (drive p w n₀ ann ((k n).onRaise h) _) none = _
    rw [h0]
    exact ih _ _ r e
  | _ => intro s r e; cases e
theorem bind_cond {b : Bool} {o : Option α} {f : α → Option β} : (cond b o none).bind f = cond b (o.bind f) none := by cases b <;> rfl
theorem drive_bind (f : α → Sem β) (m : Sem α) : ∀ s : SC, drive p w n₀ ann (m.bind f) s = (drive p w n₀ ann m s).bind fun r => drive p w n₀ ann (f r.1) r.2 := by
  induction m with
  | rule t k ih => rintro ⟨T, n, life, gens, drawn, toks, os, c⟩; exact ih () _
  | «at» t k ih => rintro ⟨T, n, life, gens, drawn, toks, os, c⟩; exact ih () _
  | point t k ih => rintro ⟨T, n, life, gens, drawn, toks, os, c⟩; exact ih () _
  | ask k ih => rintro ⟨T, n, life, gens, drawn, toks, os, c⟩; exact ih _ _
  | fresh k ih => rintro ⟨T, n, life, gens, drawn, toks, os, c⟩; exact ih _ _
  | load a q k ih => rintro ⟨T, n, life, gens, drawn, toks, os, c⟩; exact (congrArg (Option.bind _) (funext fun o => ih o _)).trans (Option.bind_assoc _ _ _).symm
  | update a q g k ih => rintro ⟨T, n, life, gens, drawn, toks, os, c⟩; exact (congrArg (cond _ · _) ((congrArg (Option.bind _) (funext fun o => ih () _)).trans (Option.bind_assoc _ _ _).symm)).trans bind_cond.symm
  | alloc o k ih => rintro ⟨T, n, life, gens, drawn, toks, os, c⟩; exact (congrArg (cond _ · _) (ih _ _)).trans bind_cond.symm
  | _ => intro s; rfl
theorem drive_then {m : Sem α} {f : α → Sem β} {s s₁ : SC} {a : α} {r : Option (β × SC)} (h : drive p w n₀ ann m s = some (a, s₁)) (k : drive p w n₀ ann (f a) s₁ = r) : drive p w n₀ ann (m >>= f) s = r := by
  show drive p w n₀ ann (m.bind f) s = r
  rw [drive_bind, h]; exact k
theorem drive_execs {env : Env} : ∀ (l₁ l₂ : List Stmt) (s s₁ : SC) (r : Option (Flow × SC)), drive p w n₀ ann (execs l₁ env) s = some (.next, s₁) → drive p w n₀ ann (execs l₂ env) s₁ = r → drive p w n₀ ann (execs (l₁ ++ l₂) env) s = r
  | [], l₂, s, s₁, r, h, k => by cases h; exact k
  | st :: l, l₂, s, s₁, r, h, k => by
    have e : ∀ l, execs (st :: l) env = (exec st env).bind fun f => match f with | .next => execs l env | f => pure f := fun _ => rfl
    rw [e, drive_bind] at h
    show drive p w n₀ ann (execs (st :: (l ++ l₂)) env) s = r
    rw [e, drive_bind]
    cases q : drive p w n₀ ann (exec st env) s with
    | none => rw [q] at h; cases h
    | some x =>
      obtain ⟨f, s₂⟩ := x
      rw [q] at h
      cases f with
      | next => exact drive_execs l l₂ s₂ s₁ r h k
      | brk => cases h
      | cont => cases h
      | ret v => cases h
theorem drive_spliced {x : Sem Value} {rest : List (Bool × Sem Value)} {s s₁ s₂ : SC} {v : Value} {vs : List Value} (h : drive p w n₀ ann x s = some (v, s₁)) (k : drive p w n₀ ann (spliced rest) s₁ = some (vs, s₂)) :
    drive p w n₀ ann (spliced ((false, x) :: rest)) s = some (v :: vs, s₂) := by
  refine drive_then (f := fun v => _) h ?_
  refine drive_then (m := holding [v] (spliced rest)) (a := vs) (s₁ := s₂) ?_ rfl
  rw [drive_holding]; exact k

noncomputable def nameRow (env : Env) (o : Obj) : PySem.Expr → Bool × Option NameKind × Bool × Option (Option Value)
  | .Name n _ => (true, env.kindOf n, n == ("__debug__" : Str), lookIn n o)
  | _ => (false, none, true, none)
noncomputable def goodRow (a : Addr) : Bool × Option NameKind × Bool × Option (Option Value) := (true, some .local, false, some (some (.ref a)))
noncomputable def SC.up (s : SC) (k : Nat) : SC := { s with c := s.c + k }
theorem drive_name {env : Env} {o : Obj} {n : Str} {q : Pos} {a : Addr} {s : SC} (hk : env.scope.kind = .class) (hl : Nat.blt env.locals s.n = true) (ho : s.T.get env.locals = some o) (ha : alive o = some o) (hc : (o.cls == .type "dict") = true)
    (h : nameRow env o (.Name n q) = goodRow a) : drive p w n₀ ann (eval (.Name n q) env) s = some (.ref a, s.up 3) := by
  obtain ⟨T, m, life, gens, drawn, toks, os, c⟩ := s
  obtain ⟨_, h1, h2, h3⟩ : _ ∧ _ ∧ _ ∧ _ := by simpa only [nameRow, goodRow, Prod.mk.injEq] using h
  have e : eval (.Name n q) env = (do standAt q; if n == ("__debug__" : Str) then debugConstant else loadName env n) := rfl
  have hb : env.blockKind = .class := by unfold Env.blockKind; rw [hk]; rfl
  have l : loadName env n = (do if let some v ← localGet env n then return v
                                loadGlobal env n) := by
    unfold loadName
    rw [hk, hb, h1]
    rfl
  rw [e, h2, if_neg (by simp), l]
  have g : drive p w n₀ ann (localGet env n) ⟨T, m, life, gens, drawn, toks, os, c + 1⟩ = some (some (.ref a), ⟨T, m, life, gens, drawn, toks, os, c + 3⟩) := by
    have lk : lookT T m env.locals = some o := by
      show cond (Nat.blt env.locals m) _ _ = _
      rw [hl]
      show ((T.get env.locals).bind alive) = _
      rw [ho]; exact ha
    show (lookT T m env.locals).bind (fun x => drive p w n₀ ann (if x.cls == .type "dict" then nsGet env.locals n else _) _) = _
    rw [lk]
    show drive p w n₀ ann (if o.cls == .type "dict" then nsGet env.locals n else _) _ = _
    rw [if_pos hc]
    show (lookT T m env.locals).bind (fun x => drive p w n₀ ann (nsLook n x) _) = _
    rw [lk]
    show drive p w n₀ ann (nsLook n o) _ = _
    rw [nsLook_of h3]; rfl
  exact drive_then (m := standAt q) (a := ()) (s₁ := ⟨T, m, life, gens, drawn, toks, os, c + 1⟩) rfl (drive_then g rfl)
theorem drive_names {env : Env} {o : Obj} {q : Pos} (hk : env.scope.kind = .class) (ha : alive o = some o) (hc : (o.cls == .type "dict") = true) :
    ∀ (es : List PySem.Expr) (as : List Addr) (s : SC), Nat.blt env.locals s.n = true → s.T.get env.locals = some o → es.map (nameRow env o) = as.map goodRow → drive p w n₀ ann (spliced (backTo q (starEach es env))) s = some (as.map Value.ref, s.up (3 * es.length))
  | [], [], _, _, _, _ => rfl
  | e :: es, a :: as, s, hl, ho, h => by
    obtain ⟨h1, h2⟩ := List.cons.inj h
    cases e <;> first | (cases h1; done) | skip
    have := drive_spliced (drive_name (p := p) (w := w) (n₀ := n₀) (ann := ann) hk hl ho ha hc h1) (drive_names (q := q) hk ha hc es as (s.up 3) hl ho h2)
    rw [show (s.up 3).up (3 * es.length) = s.up (3 * (es.length + 1)) by simp only [SC.up]; congr 1; omega] at this
    exact this
  | [], _ :: _, _, _, _, h => by cases h
  | _ :: _, [], _, _, _, h => by cases h
noncomputable def intsOk : List PySem.Expr → Bool
  | [] => true
  | .Constant (.int _) _ _ :: l => intsOk l
  | _ => false
noncomputable def intsAt : Nat → List PySem.Expr → List Value
  | _, [] => []
  | k, .Constant (.int i) _ _ :: l => .int i k :: intsAt (k + 1) l
  | k, _ :: l => intsAt k l
theorem intsOk_cons {e : PySem.Expr} {es : List PySem.Expr} (h : intsOk (e :: es) = true) : ∃ i k p, e = .Constant (.int i) k p ∧ intsOk es = true := by
  unfold intsOk at h
  split at h
  · rename_i heq; cases heq
  · rename_i heq; cases heq; exact ⟨_, _, _, rfl, h⟩
  · cases h
theorem drive_ints {env : Env} {q : Pos} : ∀ (es : List PySem.Expr) (s : SC), intsOk es = true → drive p w n₀ ann (spliced (backTo q (starEach es env))) s = some (intsAt s.toks es, { s with toks := s.toks + es.length, c := s.c + es.length })
  | [], s, _ => rfl
  | e :: es, ⟨T, m, life, gens, drawn, toks, os, c⟩, h => by
    obtain ⟨i, k, q', rfl, h⟩ := intsOk_cons h
    have := drive_spliced (p := p) (w := w) (n₀ := n₀) (ann := ann) (x := mkInt i) (s := ⟨T, m, life, gens, drawn, toks, os, c⟩) (s₁ := ⟨T, m, life, gens, drawn, toks + 1, os, c + 1⟩) (v := .int i toks) rfl (drive_ints (env := env) (q := q) es ⟨T, m, life, gens, drawn, toks + 1, os, c + 1⟩ h)
    rw [show toks + 1 + es.length = toks + (es.length + 1) by omega, show c + 1 + es.length = c + (es.length + 1) by omega] at this
    exact this
theorem drive_listStmt {env : Env} {id : Str} {p1 p2 p3 : Pos} {elts : List PySem.Expr} {vs : List Value} {s s₁ : SC} {r : Option (Flow × SC)} (hs : drive p w n₀ ann (spliced (backTo p2 (starEach elts env))) (s.up 2) = some (vs, s₁))
    (hk : drive p w n₀ ann (newList vs >>= fun v => standAt p1 >>= fun _ => bindName env id v >>= fun _ => pure Flow.next) s₁ = r) :
    drive p w n₀ ann (execs [.Assign [.Name id p1] (.List elts p2) p3] env) s = r.bind fun x => match x with | (.next, s) => some (.next, s) | x => some x := by
  have e : execs [.Assign [.Name id p1] (.List elts p2) p3] env = (exec (.Assign [.Name id p1] (.List elts p2) p3) env).bind fun f => match f with | .next => pure .next | f => pure f := rfl
  rw [e, drive_bind, exec_Assign_Name _ _ _ _ _ rfl]
  have : drive p w n₀ ann (do standAt p3; let v ← eval (.List elts p2) env; standAt p1; bindName env id v; pure Flow.next) s = r := by
    refine drive_then (m := standAt p3) (a := ()) (s₁ := s.up 1) (by cases s; rfl) ?_
    show drive p w n₀ ann ((standAt p2 >>= fun _ => spliced (backTo p2 (starEach elts env)) >>= newList).bind _) _ = r
    rw [drive_bind]
    show (drive p w n₀ ann ((standAt p2).bind fun _ => (spliced (backTo p2 (starEach elts env))).bind newList) _).bind _ = r
    rw [drive_bind]
    have : drive p w n₀ ann (standAt p2) (s.up 1) = some ((), s.up 2) := by cases s; rfl
    rw [this]
    show (drive p w n₀ ann ((spliced (backTo p2 (starEach elts env))).bind newList) (s.up 2)).bind _ = r
    rw [drive_bind, hs]
    show (drive p w n₀ ann (newList vs) s₁).bind _ = r
    exact (drive_bind (p := p) (w := w) (n₀ := n₀) (ann := ann) (fun v => standAt p1 >>= fun _ => bindName env id v >>= fun _ => pure Flow.next) (newList vs) s₁).symm.trans hk
  rw [this]
  cases r with
  | none => rfl
  | some x => obtain ⟨f, s⟩ := x; cases f <;> rfl
end

section
variable {p : Program} {w : World} {n₀ : Nat} {ann : Option Value}
theorem names_stmt {env : Env} {id : Str} {p1 p2 p3 : Pos} {elts : List PySem.Expr} {as : List Addr} {o : Obj} {s s₂ : SC} {sts : List Stmt} {n : Nat} (hs : sts = [.Assign [.Name id p1] (.List elts p2) p3]) (hk : env.scope.kind = .class) (ha : alive o = some o) (hc : (o.cls == .type "dict") = true)
    (hl : Nat.blt env.locals s.n = true) (ho : s.T.get env.locals = some o) (h : elts.map (nameRow env o) = as.map goodRow) (hn : elts.length = n)
    (hb : drive p w n₀ ann (newList (as.map Value.ref) >>= fun v => standAt p1 >>= fun _ => bindName env id v >>= fun _ => pure Flow.next) ((s.up 2).up (3 * n)) = some (.next, s₂)) : drive p w n₀ ann (execs sts env) s = some (.next, s₂) := by
  subst hs hn
  exact drive_listStmt (drive_names hk ha hc elts as (s.up 2) hl ho h) hb
theorem ints_stmt {env : Env} {id : Str} {p1 p2 p3 : Pos} {elts : List PySem.Expr} {s s₂ : SC} {sts : List Stmt} {n : Nat} (hs : sts = [.Assign [.Name id p1] (.List elts p2) p3]) (h : intsOk elts = true) (hn : elts.length = n)
    (hb : drive p w n₀ ann (newList (intsAt s.toks elts) >>= fun v => standAt p1 >>= fun _ => bindName env id v >>= fun _ => pure Flow.next) { s with toks := s.toks + n, c := s.c + 2 + n } = some (.next, s₂)) : drive p w n₀ ann (execs sts env) s = some (.next, s₂) := by
  subst hs hn
  exact drive_listStmt (drive_ints elts (s.up 2) h) hb
end
theorem LeftO.of_run {p q : Program} {loose : List Str} {Xt : Shared → Bool} {α : Type} {Yf : Shared → α} {Ya : World → α} {N : Nat} {g0 : Bool} {H₀ : Params → Heap} {gs₀ : Array GenState} {d₀ : Drawn} {k₀ : Nat} {m₀ : Nat} {ann : Option Value} {F : World → OsState → Shared}
    (open_ : ∀ w : World, (fencedOpening treeTable p w N).map (fun s => (s.heap, s.gens, s.drawn, s.toks)) = some (H₀ w.params, gs₀, d₀, k₀))
    (size : ∀ w : World, ((H₀ w.params).isNs mainGlobals && gs₀.size == 0, (H₀ w.params).objs.size, (H₀ w.params).nsMap mainGlobals "__annotations__") = (true, m₀, ann))
    (run : ∀ (w : World) (os : OsState), ∃ M, M ≤ N ∧ topRun treeTable p w m₀ ann M ⟨H₀ w.params, gs₀, d₀, k₀, os⟩ (topStub p) = some (F w os))
    (looks : ∀ (w : World) (os : OsState), ((staticsOk (importedModules p.main.body) (H₀ w.params) (F w os).heap && namesBound p (F w os).heap && gensDone (F w os) && laidKept (H₀ w.params) (F w os).heap),
        openSeen q loose (importedModules p.main.body) Xt g0 (F w os), Yf (F w os)) = (true, openGood q loose, Ya w)) : LeftO p q loose Xt Yf Ya N g0 := fun w => by
  obtain ⟨⟨h, gs, d, k, os⟩, e, e'⟩ := Option.map_eq_some_iff.mp (open_ w)
  obtain ⟨rfl, rfl, rfl, rfl⟩ : h = H₀ w.params ∧ gs = gs₀ ∧ d = d₀ ∧ k = k₀ := by simpa using e'
  obtain ⟨z1, z2, z3⟩ : _ ∧ _ ∧ _ := by simpa only [Prod.mk.injEq] using size w
  obtain ⟨l1, l2, l3⟩ : _ ∧ _ ∧ _ := by simpa only [Prod.mk.injEq] using looks w os
  obtain ⟨M, le, run⟩ := run w os
  have r := topRun_mono (N - M) _ _ _ _ run
  rw [show M + (N - M) = N by omega] at r
  have t : topFrom treeTable p w N ⟨H₀ w.params, gs, d, k, os⟩ = some (F w os) := by
    unfold topFrom
    dsimp only
    rw [z1, z2, z3, r]
    show (match staticsOk (importedModules p.main.body) (H₀ w.params) (F w os).heap && namesBound p (F w os).heap && gensDone (F w os) && laidKept (H₀ w.params) (F w os).heap with | true => _ | false => _) = _
    rw [l1]
  unfold openEnds
  rw [e]
  show (topFrom treeTable p w N _).map _ = _
  rw [t]
  exact congrArg some (Prod.ext l2 l3)

noncomputable def btOf : Nat → List Obj → BT → BT
  | _, [], t => t
  | i, o :: l, t => btOf (i + 1) l (t.ins i o)
structure Cfg where
  nsA : Addr
  plA : Addr
  qual : Str
  modV : Value
  text : Nat
  file : Str
  instr : List Nat
structure Acc where
  t : BT
  n : Nat
  k : Nat
  ents : List DictEntry
  pl : List Value
noncomputable def hashOf (P : Params) (s : Str) : Int := if s.cps.isEmpty then 0 else reduceHash (P.strHash s.cps)
noncomputable def entOf (P : Params) (name : Str) (k : Nat) (v : Value) : DictEntry := ⟨hashOf P name, .str name k, v⟩
noncomputable def textsAt : Nat → List Str → List Value
  | _, [] => []
  | k, s :: l => .str s k :: textsAt (k + 1) l
noncomputable def constsAt : Nat → List PySem.Expr → List Value × Nat
  | k, [] => ([], k)
  | k, .Constant (.int i) _ _ :: l => let (vs, k') := constsAt (k + 1) l; (.int i k :: vs, k')
  | k, .Constant .none _ _ :: l => let (vs, k') := constsAt k l; (.none :: vs, k')
  | k, _ :: l => constsAt k l
noncomputable def tupO (vs : List Value) : Obj := { cls := .type "tuple", data := .seq vs.toArray }
noncomputable def codeO (c : Cfg) (name : Str) (args : Arguments) (body : List Stmt) (scope : Scope) (pos : Pos) (n k : Nat) : Obj :=
  let q := c.qual ++ name
  let (ls, cs) := (localNames args scope (.stmts body)).getD ([], [])
  let k3 := k + 3 + ls.length + cs.length
  let cx : CodeContext := { file := c.file, future := 0, inFunction := false, text := c.text }
  { cls := .type "code", data := .fields #[.str name k, .str q (k + 1), .str c.file (k + 2), rawInt pos.line, rawInt ((args.posonlyargs.length + args.args.length : Nat) : Int), rawInt (args.posonlyargs.length : Nat), rawInt (args.kwonlyargs.length : Nat),
    rawInt (functionFlags args.vararg.isSome args.kwarg.isSome scope cx : Nat), .ref n, .bool true, rawInt (c.text : Nat), .ref (n + 1), .none, .ref (n + 2), .ref (n + 3), .ref (n + 4), rawInt (k3 : Nat), rawInt pos.line, .str c.file (k3 + 1)] }
noncomputable def fnD (c : Cfg) (name : Str) (args : Arguments) (body : List Stmt) (scope : Scope) (dV : Value) (code : Addr) : FuncData :=
  { name, qualname := c.qual ++ name, params := args, body := .stmts body, scope, globals := mainNs, closure := [], defaults := dV, kwdefaults := .none, pyModule := c.modV, code := .ref code, builtins := builtinsNs }
noncomputable def fnO (fd : FuncData) : Obj := { cls := .type "function", data := .func fd }
noncomputable def layDef (P : Params) (c : Cfg) (name : Str) (args : Arguments) (body : List Stmt) (scope : Scope) (bind : Str) (pos : Pos) (dV : Value) : Acc → Acc
  | ⟨t, n, k, ents, pl⟩ => match (localNames args scope (.stmts body)).getD ([], []) with
    | (ls, cs) => ⟨((((((t.ins n (tupO [])).ins (n + 1) { cls := .none, data := .fields #[] }).ins (n + 2) (tupO (textsAt (k + 3) ls))).ins (n + 3) (tupO (textsAt (k + 3 + ls.length) cs))).ins (n + 4) { cls := .none, data := .func { name, qualname := c.qual ++ name, params := args, body := .stmts body, scope, globals := builtinsNs, closure := [], defaults := .none, kwdefaults := .none } }).ins (n + 5) (codeO c name args body scope pos n k)).ins (n + 6) (fnO (fnD c name args body scope dV (n + 5))),
        n + 7, k + 3 + ls.length + cs.length + 3, entOf P bind (k + 3 + ls.length + cs.length + 2) (.ref (n + 6)) :: ents, .ref (n + 5) :: rawInt pos.col :: rawInt pos.line :: pl⟩
noncomputable def laySt (P : Params) (c : Cfg) (st : Stmt) : Acc → Acc
  | ⟨t, n, k, ents, pl⟩ => match st with
    | .Assign [.Name id _] (.Constant (.int i) _ _) _ => ⟨t, n, k + 2, entOf P id (k + 1) (.int i k) :: ents, pl⟩
    | .Assign [.Name id _] (.Constant (.str s) _ _) _ => ⟨t, n, k + 2, entOf P id (k + 1) (.str s k) :: ents, pl⟩
    | .Assign [.Name id _] (.List elts _) _ => match elts with
      | .Name _ _ :: _ => ⟨t.ins n { cls := .type "list", data := .seq (c.instr.map Value.ref).toArray }, n + 1, k + 1, entOf P id k (.ref n) :: ents, pl⟩
      | _ => ⟨t.ins n { cls := .type "list", data := .seq (intsAt k elts).toArray }, n + 1, k + elts.length + 1, entOf P id (k + elts.length) (.ref n) :: ents, pl⟩
    | .FunctionDef name args body _ _ _ scope _ bind pos => match args.defaults with
      | [] => layDef P c name args body scope bind pos .none ⟨t, n, k, ents, pl⟩
      | ds => match constsAt k ds with
        | (vs, k') => layDef P c name args body scope bind pos (.ref n) ⟨t.ins n (tupO vs), n + 1, k', ents, pl⟩
    | _ => ⟨t, n, k, ents, pl⟩
noncomputable def defPair (c : Cfg) (st : Stmt) (n k : Nat) (dV : Value) : List (Nat × Obj) := match st with
  | .FunctionDef name args body _ _ _ scope _ _ pos => [(n + 6, fnO (fnD c name args body scope dV (n + 5))), (n + 5, codeO c name args body scope pos n k)]
  | _ => []
noncomputable def laySts (P : Params) (c : Cfg) : Nat → List Stmt → Acc → Acc
  | 0, _, a => a
  | j + 1, st :: l, a => laySts P c j l (laySt P c st a)
  | _ + 1, [], a => a
noncomputable def addEnts (new : List DictEntry) : Obj → Obj
  | ⟨c, d, .dict es n, s⟩ => ⟨c, d, .dict (es.toList ++ new).toArray (n + new.length), s⟩
  | o => o
noncomputable def addFields (new : List Value) : Obj → Obj
  | ⟨c, d, .fields vs, s⟩ => ⟨c, d, .fields (vs.toList ++ new).toArray, s⟩
  | o => o
noncomputable def accState (c : Cfg) (s : SharedT) (a : Acc) (kk : Nat) : SC := match a with
  | ⟨t, n, k, ents, pl⟩ => ⟨(t.set c.nsA (addEnts ents.reverse)).set c.plA (addFields pl.reverse), n, s.life, s.gens, s.drawn, k, s.os, kk⟩
noncomputable def posAfter : Stmt → Pos
  | .FunctionDef _ _ _ _ _ _ _ _ _ pos => pos
  | .Assign [.Name _ pos] _ _ => pos
  | _ => default
end Mine

end
section
open PySem PySem.W PyProof.Rows
set_option maxRecDepth 100000
set_option maxHeartbeats 0
namespace Mine
noncomputable abbrev pw : Program := PySem.Challenge.pw_lr0005_04
noncomputable def clsParts : List Stmt × Scope := match (List.drop 1 pw.main.body : List Stmt) with
  | Stmt.ClassDef _ _ _ b _ _ sc _ _ _ _ :: _ => (b, sc)
  | _ => ([], default)
noncomputable def bodyL : List Stmt := clsParts.1
noncomputable def cenv : Env := { scope := clsParts.2, locals := 17, globals := 3, qual := "MPU.", code := .ref 20, frame := some 21, builtins := 0, cells := [] }
noncomputable def cfg : Cfg := { nsA := 17, plA := 19, qual := "MPU.", modV := .str "py65.devices.mpu6502" 187, text := 181, file := "/claim/cut.py", instr := [365, 372, 358, 358, 358, 379, 386, 358, 393, 400, 407, 358, 358, 414, 421, 358, 428, 435, 358, 358, 358, 442, 449, 358, 456, 463, 358, 358, 358, 470, 477, 358, 484, 491, 358, 358, 498, 505, 512, 358, 519, 526, 533, 358, 540, 547, 554, 358, 561, 568, 358, 358, 358, 575, 582, 358, 589, 596, 358, 358, 358, 603, 610, 358, 617, 624, 358, 358, 358, 631, 638, 358, 645, 652, 659, 358, 666, 673, 680, 358, 687, 694, 358, 358, 358, 701, 708, 358, 715, 722, 358, 358, 358, 729, 736, 358, 743, 750, 358, 358, 358, 757, 764, 358, 771, 778, 785, 358, 792, 799, 806, 358, 813, 820, 358, 358, 358, 827, 834, 358, 841, 848, 358, 358, 358, 855, 862, 358, 358, 869, 358, 358, 876, 883, 890, 358, 897, 358, 904, 358, 911, 918, 925, 358, 932, 939, 358, 358, 946, 953, 960, 358, 967, 974, 981, 358, 358, 988, 358, 358, 995, 1002, 1009, 358, 1016, 1023, 1030, 358, 1037, 1044, 1051, 358, 1058, 1065, 1072, 358, 1079, 1086, 358, 358, 1093, 1100, 1107, 358, 1114, 1121, 1128, 358, 1135, 1142, 1149, 358, 1156, 1163, 358, 358, 1170, 1177, 1184, 358, 1191, 1198, 1205, 358, 1212, 1219, 1226, 358, 1233, 1240, 358, 358, 358, 1247, 1254, 358, 1261, 1268, 358, 358, 358, 1275, 1282, 358, 1289, 1296, 358, 358, 1303, 1310, 1317, 358, 1324, 1331, 1338, 358, 1345, 1352, 1359, 358, 1366, 1373, 358, 358, 358, 1380, 1387, 358, 1394, 1401, 358, 358, 358, 1408, 1415, 358] }
noncomputable def S0 (w : World) (os : OsState) : SharedT := ⟨btOf 0 (boot_heap w.params).objs.toList .nil, 11, (boot_heap w.params).life, Array.mk [], boot_drawn, boot_toks, os⟩
theorem s0_abs (w : World) (os : OsState) : (S0 w os).abs = ⟨boot_heap w.params, Array.mk [], boot_drawn, boot_toks, os⟩ := by kernel_rfl
noncomputable abbrev goT (w : World) (n : Nat) (s : SharedT) (t : Thread) := topGoT treeTable pw w 11 (some (.ref 6)) n s t
noncomputable abbrev dr (w : World) {α : Type} (m : Sem α) (s : SC) := drive pw w 11 (some (.ref 6)) m s
noncomputable def R0 (w : World) (os : OsState) : Option (SharedT × Thread) := goT w 80 (S0 w os) (topStub pw)
noncomputable def stk (w : World) (os : OsState) : List Frame := match R0 w os with | some (_, t) => t.stack | none => []
noncomputable def stk1 (w : World) (os : OsState) : Frame := match stk w os with | f :: _ => f | [] => .gen 0 (fun _ => .raise .none) [] (.builtin "" {}) default
noncomputable def stk2 (w : World) (os : OsState) : List Frame := match stk w os with | _ :: r => r | [] => []
noncomputable def ob3 (P : Params) : Obj := { cls := .type "dict", data := .dict [entOf P "__name__" 165 (.str "py65.devices.mpu6502" 187), entOf P "__doc__" 166 (.none), entOf P "__package__" 167 (.none), entOf P "__loader__" 168 (.builtin "__main__.__loader__#opaque"), entOf P "__spec__" 169 (.none), entOf P "__annotations__" 170 (.ref 6), entOf P "__builtins__" 171 (.ref 4), entOf P "__file__" 173 (.str "/claim/cut.py" 172), entOf P "__cached__" 174 (.none)].toArray 9 }
noncomputable def ob11 : Obj := { cls := .type "tuple", data := .seq [].toArray 0 }
noncomputable def ob12 : Obj := { cls := .none, data := .fields [.int (2) 0, .int (0) 0, .ref 20].toArray }
noncomputable def ob13 : Obj := { cls := .type "code", data := .fields [.str "<module>" 182, .str "<module>" 183, .str "/claim/cut.py" 184, .int (1) 0, .int (0) 0, .int (0) 0, .int (0) 0, .int (0) 0, .ref 11, .bool false, .int (181) 0, .ref 12, .none, .none, .none, .none, .int (185) 0, .int (1) 0, .str "/claim/cut.py" 186].toArray }
noncomputable def ob14 : Obj := { cls := .type "frame", data := .plain, slots := #[some (.ref 13), some (.ref 3), some (.ref 3), none, some (.str "__main__" 164), none, some (.ref 0)] }
noncomputable def ob15 : Obj := { cls := .type "tuple", data := .seq [].toArray 0 }
noncomputable def ob16 : Obj := { cls := .type "builtin_function_or_method", data := .fields [.builtin "type.__prepare__", .type "type"].toArray }
noncomputable def ob17 (P : Params) : Obj := { cls := .type "dict", data := .dict [entOf P "__module__" 196 (.str "py65.devices.mpu6502" 187), entOf P "__qualname__" 198 (.str "MPU" 197), entOf P "__firstlineno__" 200 (.int (2) 199)].toArray 3 }
noncomputable def ob18 : Obj := { cls := .type "tuple", data := .seq [].toArray 0 }
noncomputable def ob19 : Obj := { cls := .none, data := .fields [].toArray }
noncomputable def ob20 : Obj := { cls := .type "code", data := .fields [.str "MPU" 191, .str "MPU" 192, .str "/claim/cut.py" 193, .int (2) 0, .int (0) 0, .int (0) 0, .int (0) 0, .int (0) 0, .ref 18, .bool false, .int (181) 0, .ref 19, .none, .none, .none, .none, .int (194) 0, .int (2) 0, .str "/claim/cut.py" 195].toArray }
noncomputable def ob21 : Obj := { cls := .type "frame", data := .plain, slots := #[some (.ref 20), some (.ref 3), some (.ref 17), none, some (.str "py65.devices.mpu6502" 187), none, some (.ref 0)] }
noncomputable def treeB (P : Params) : BT := ((((((((((((btOf 0 (boot_heap P).objs.toList .nil).set 3 (fun _ => (ob3 P))).ins 11 ob11).ins 12 ob12).ins 13 ob13).ins 14 ob14).ins 15 ob15).ins 16 ob16).ins 17 (ob17 P)).ins 18 ob18).ins 19 ob19).ins 20 ob20).ins 21 ob21
noncomputable def Sb (w : World) (os : OsState) : SharedT := ⟨treeB w.params, 22, (boot_heap w.params).life, Array.mk [], boot_drawn, 201, os⟩
noncomputable def acc_0 (P : Params) : Acc := ⟨treeB P, 22, 201, [], []⟩
noncomputable def acc_30 (P : Params) : Acc := laySts P cfg 30 (bodyL.drop 0) (acc_0 P)
noncomputable def acc_60 (P : Params) : Acc := laySts P cfg 30 (bodyL.drop 30) (acc_30 P)
noncomputable def acc_90 (P : Params) : Acc := laySts P cfg 30 (bodyL.drop 60) (acc_60 P)
noncomputable def acc_120 (P : Params) : Acc := laySts P cfg 30 (bodyL.drop 90) (acc_90 P)
noncomputable def acc_150 (P : Params) : Acc := laySts P cfg 30 (bodyL.drop 120) (acc_120 P)
noncomputable def acc_180 (P : Params) : Acc := laySts P cfg 30 (bodyL.drop 150) (acc_150 P)
noncomputable def acc_210 (P : Params) : Acc := laySts P cfg 30 (bodyL.drop 180) (acc_180 P)
noncomputable def acc_214 (P : Params) : Acc := laySts P cfg 4 (bodyL.drop 210) (acc_210 P)
noncomputable def acc_215 (P : Params) : Acc := laySts P cfg 1 (bodyL.drop 214) (acc_214 P)
noncomputable def acc_216 (P : Params) : Acc := laySts P cfg 1 (bodyL.drop 215) (acc_215 P)
noncomputable def acc_217 (P : Params) : Acc := laySts P cfg 1 (bodyL.drop 216) (acc_216 P)
noncomputable def St0 (w : World) (os : OsState) : SC := accState cfg (Sb w os) (acc_0 w.params) 0
noncomputable def St30 (w : World) (os : OsState) : SC := accState cfg (Sb w os) (acc_30 w.params) 612
noncomputable def St60 (w : World) (os : OsState) : SC := accState cfg (Sb w os) (acc_60 w.params) 1576
noncomputable def St90 (w : World) (os : OsState) : SC := accState cfg (Sb w os) (acc_90 w.params) 2479
noncomputable def St120 (w : World) (os : OsState) : SC := accState cfg (Sb w os) (acc_120 w.params) 3379
noncomputable def St150 (w : World) (os : OsState) : SC := accState cfg (Sb w os) (acc_150 w.params) 4280
noncomputable def St180 (w : World) (os : OsState) : SC := accState cfg (Sb w os) (acc_180 w.params) 5180
noncomputable def St210 (w : World) (os : OsState) : SC := accState cfg (Sb w os) (acc_210 w.params) 6080
noncomputable def St214 (w : World) (os : OsState) : SC := accState cfg (Sb w os) (acc_214 w.params) 6200
noncomputable def St215 (w : World) (os : OsState) : SC := accState cfg (Sb w os) (acc_215 w.params) 6979
noncomputable def St216 (w : World) (os : OsState) : SC := accState cfg (Sb w os) (acc_216 w.params) 7246
noncomputable def St217 (w : World) (os : OsState) : SC := accState cfg (Sb w os) (acc_217 w.params) 7513
noncomputable def cur0 : Sem Fin := ((execs bodyL cenv).onRaise (leaving cenv)).bind fun f => .pure (.done f)
theorem c_head (w : World) (os : OsState) : goT w 80 (S0 w os) (topStub pw) = some ((St0 w os).s, ⟨cur0, .body bodyL cenv, ⟨2, 0, 1038, 786⟩, stk1 w os :: stk2 w os⟩) := by kernel_rfl
theorem d_0 (w : World) (os : OsState) : dr w (execs ((bodyL.drop 0).take 30) cenv) (St0 w os) = some (.next, St30 w os) := by kernel_rfl
theorem d_30 (w : World) (os : OsState) : dr w (execs ((bodyL.drop 30).take 30) cenv) (St30 w os) = some (.next, St60 w os) := by kernel_rfl
theorem d_60 (w : World) (os : OsState) : dr w (execs ((bodyL.drop 60).take 30) cenv) (St60 w os) = some (.next, St90 w os) := by kernel_rfl
theorem d_90 (w : World) (os : OsState) : dr w (execs ((bodyL.drop 90).take 30) cenv) (St90 w os) = some (.next, St120 w os) := by kernel_rfl
theorem d_120 (w : World) (os : OsState) : dr w (execs ((bodyL.drop 120).take 30) cenv) (St120 w os) = some (.next, St150 w os) := by kernel_rfl
theorem d_150 (w : World) (os : OsState) : dr w (execs ((bodyL.drop 150).take 30) cenv) (St150 w os) = some (.next, St180 w os) := by kernel_rfl
theorem d_180 (w : World) (os : OsState) : dr w (execs ((bodyL.drop 180).take 30) cenv) (St180 w os) = some (.next, St210 w os) := by kernel_rfl
theorem d_210 (w : World) (os : OsState) : dr w (execs ((bodyL.drop 210).take 4) cenv) (St210 w os) = some (.next, St214 w os) := by kernel_rfl
noncomputable def lp214 : Str × Pos × List PySem.Expr × Pos × Pos := match bodyL.drop 214 with | .Assign [.Name id p1] (.List elts p2) p3 :: _ => (id, p1, elts, p2, p3) | _ => (Str.empty, default, [], default, default)
theorem lp214_eq : (bodyL.drop 214).take 1 = [.Assign [.Name lp214.1 lp214.2.1] (.List lp214.2.2.1 lp214.2.2.2.1) lp214.2.2.2.2] := by kernel_rfl
noncomputable def nsObj (w : World) (os : OsState) : Obj := ((St214 w os).T.get 17).getD default
theorem names_ok1 (w : World) (os : OsState) : lp214.2.2.1.map (nameRow cenv (nsObj w os)) = cfg.instr.map goodRow := by kernel_rfl
theorem names_ok2 (w : World) (os : OsState) : (St214 w os).T.get cenv.locals = some (nsObj w os) := by kernel_rfl
theorem names_ok3 (w : World) (os : OsState) : alive (nsObj w os) = some (nsObj w os) := by kernel_rfl
theorem names_ok4 (w : World) (os : OsState) : ((nsObj w os).cls == .type "dict") = true := by kernel_rfl
theorem names_ok5 (w : World) (os : OsState) : Nat.blt cenv.locals (St214 w os).n = true := by kernel_rfl
theorem l_214b (w : World) (os : OsState) : drive pw w 11 (some (.ref 6)) (newList (cfg.instr.map Value.ref) >>= fun v => standAt lp214.2.1 >>= fun _ => bindName cenv lp214.1 v >>= fun _ => pure Flow.next) (((St214 w os).up 2).up (3 * 256)) = some (.next, St215 w os) := by kernel_rfl
theorem d_214 (w : World) (os : OsState) : dr w (execs ((bodyL.drop 214).take 1) cenv) (St214 w os) = some (.next, St215 w os) :=
  names_stmt lp214_eq (by kernel_rfl) (names_ok3 w os) (names_ok4 w os) (names_ok5 w os) (names_ok2 w os) (names_ok1 w os) (by kernel_rfl) (l_214b w os)
noncomputable def lp215 : Str × Pos × List PySem.Expr × Pos × Pos := match bodyL.drop 215 with | .Assign [.Name id p1] (.List elts p2) p3 :: _ => (id, p1, elts, p2, p3) | _ => (Str.empty, default, [], default, default)
theorem lp215_eq : (bodyL.drop 215).take 1 = [.Assign [.Name lp215.1 lp215.2.1] (.List lp215.2.2.1 lp215.2.2.2.1) lp215.2.2.2.2] := by kernel_rfl
theorem l_215b (w : World) (os : OsState) : drive pw w 11 (some (.ref 6)) (newList (intsAt (St215 w os).toks lp215.2.2.1) >>= fun v => standAt lp215.2.1 >>= fun _ => bindName cenv lp215.1 v >>= fun _ => pure Flow.next) { (St215 w os) with toks := (St215 w os).toks + 256, c := (St215 w os).c + 2 + 256 } = some (.next, St216 w os) := by kernel_rfl
theorem d_215 (w : World) (os : OsState) : dr w (execs ((bodyL.drop 215).take 1) cenv) (St215 w os) = some (.next, St216 w os) :=
  ints_stmt lp215_eq (by kernel_rfl) (by kernel_rfl) (l_215b w os)
noncomputable def lp216 : Str × Pos × List PySem.Expr × Pos × Pos := match bodyL.drop 216 with | .Assign [.Name id p1] (.List elts p2) p3 :: _ => (id, p1, elts, p2, p3) | _ => (Str.empty, default, [], default, default)
theorem lp216_eq : (bodyL.drop 216).take 1 = [.Assign [.Name lp216.1 lp216.2.1] (.List lp216.2.2.1 lp216.2.2.2.1) lp216.2.2.2.2] := by kernel_rfl
theorem l_216b (w : World) (os : OsState) : drive pw w 11 (some (.ref 6)) (newList (intsAt (St216 w os).toks lp216.2.2.1) >>= fun v => standAt lp216.2.1 >>= fun _ => bindName cenv lp216.1 v >>= fun _ => pure Flow.next) { (St216 w os) with toks := (St216 w os).toks + 256, c := (St216 w os).c + 2 + 256 } = some (.next, St217 w os) := by kernel_rfl
theorem d_216 (w : World) (os : OsState) : dr w (execs ((bodyL.drop 216).take 1) cenv) (St216 w os) = some (.next, St217 w os) :=
  ints_stmt lp216_eq (by kernel_rfl) (by kernel_rfl) (l_216b w os)
theorem e_217 (w : World) (os : OsState) : dr w (execs (bodyL.drop 217) cenv) (St217 w os) = some (.next, St217 w os) := by
  rw [show bodyL.drop 217 = [] by kernel_rfl]; rfl
theorem e_216 (w : World) (os : OsState) : dr w (execs (bodyL.drop 216) cenv) (St216 w os) = some (.next, St217 w os) := by
  have h := drive_execs (p := pw) (w := w) (n₀ := 11) (ann := some (.ref 6)) (env := cenv) ((bodyL.drop 216).take 1) (bodyL.drop 217) _ _ _ (d_216 w os) (e_217 w os)
  rwa [show bodyL.drop 217 = (bodyL.drop 216).drop 1 by rw [List.drop_drop], List.take_append_drop] at h
theorem e_215 (w : World) (os : OsState) : dr w (execs (bodyL.drop 215) cenv) (St215 w os) = some (.next, St217 w os) := by
  have h := drive_execs (p := pw) (w := w) (n₀ := 11) (ann := some (.ref 6)) (env := cenv) ((bodyL.drop 215).take 1) (bodyL.drop 216) _ _ _ (d_215 w os) (e_216 w os)
  rwa [show bodyL.drop 216 = (bodyL.drop 215).drop 1 by rw [List.drop_drop], List.take_append_drop] at h
theorem e_214 (w : World) (os : OsState) : dr w (execs (bodyL.drop 214) cenv) (St214 w os) = some (.next, St217 w os) := by
  have h := drive_execs (p := pw) (w := w) (n₀ := 11) (ann := some (.ref 6)) (env := cenv) ((bodyL.drop 214).take 1) (bodyL.drop 215) _ _ _ (d_214 w os) (e_215 w os)
  rwa [show bodyL.drop 215 = (bodyL.drop 214).drop 1 by rw [List.drop_drop], List.take_append_drop] at h
theorem e_210 (w : World) (os : OsState) : dr w (execs (bodyL.drop 210) cenv) (St210 w os) = some (.next, St217 w os) := by
  have h := drive_execs (p := pw) (w := w) (n₀ := 11) (ann := some (.ref 6)) (env := cenv) ((bodyL.drop 210).take 4) (bodyL.drop 214) _ _ _ (d_210 w os) (e_214 w os)
  rwa [show bodyL.drop 214 = (bodyL.drop 210).drop 4 by rw [List.drop_drop], List.take_append_drop] at h
theorem e_180 (w : World) (os : OsState) : dr w (execs (bodyL.drop 180) cenv) (St180 w os) = some (.next, St217 w os) := by
  have h := drive_execs (p := pw) (w := w) (n₀ := 11) (ann := some (.ref 6)) (env := cenv) ((bodyL.drop 180).take 30) (bodyL.drop 210) _ _ _ (d_180 w os) (e_210 w os)
  rwa [show bodyL.drop 210 = (bodyL.drop 180).drop 30 by rw [List.drop_drop], List.take_append_drop] at h
theorem e_150 (w : World) (os : OsState) : dr w (execs (bodyL.drop 150) cenv) (St150 w os) = some (.next, St217 w os) := by
  have h := drive_execs (p := pw) (w := w) (n₀ := 11) (ann := some (.ref 6)) (env := cenv) ((bodyL.drop 150).take 30) (bodyL.drop 180) _ _ _ (d_150 w os) (e_180 w os)
  rwa [show bodyL.drop 180 = (bodyL.drop 150).drop 30 by rw [List.drop_drop], List.take_append_drop] at h
theorem e_120 (w : World) (os : OsState) : dr w (execs (bodyL.drop 120) cenv) (St120 w os) = some (.next, St217 w os) := by
  have h := drive_execs (p := pw) (w := w) (n₀ := 11) (ann := some (.ref 6)) (env := cenv) ((bodyL.drop 120).take 30) (bodyL.drop 150) _ _ _ (d_120 w os) (e_150 w os)
  rwa [show bodyL.drop 150 = (bodyL.drop 120).drop 30 by rw [List.drop_drop], List.take_append_drop] at h
theorem e_90 (w : World) (os : OsState) : dr w (execs (bodyL.drop 90) cenv) (St90 w os) = some (.next, St217 w os) := by
  have h := drive_execs (p := pw) (w := w) (n₀ := 11) (ann := some (.ref 6)) (env := cenv) ((bodyL.drop 90).take 30) (bodyL.drop 120) _ _ _ (d_90 w os) (e_120 w os)
  rwa [show bodyL.drop 120 = (bodyL.drop 90).drop 30 by rw [List.drop_drop], List.take_append_drop] at h
theorem e_60 (w : World) (os : OsState) : dr w (execs (bodyL.drop 60) cenv) (St60 w os) = some (.next, St217 w os) := by
  have h := drive_execs (p := pw) (w := w) (n₀ := 11) (ann := some (.ref 6)) (env := cenv) ((bodyL.drop 60).take 30) (bodyL.drop 90) _ _ _ (d_60 w os) (e_90 w os)
  rwa [show bodyL.drop 90 = (bodyL.drop 60).drop 30 by rw [List.drop_drop], List.take_append_drop] at h
theorem e_30 (w : World) (os : OsState) : dr w (execs (bodyL.drop 30) cenv) (St30 w os) = some (.next, St217 w os) := by
  have h := drive_execs (p := pw) (w := w) (n₀ := 11) (ann := some (.ref 6)) (env := cenv) ((bodyL.drop 30).take 30) (bodyL.drop 60) _ _ _ (d_30 w os) (e_60 w os)
  rwa [show bodyL.drop 60 = (bodyL.drop 30).drop 30 by rw [List.drop_drop], List.take_append_drop] at h
theorem e_0 (w : World) (os : OsState) : dr w (execs (bodyL.drop 0) cenv) (St0 w os) = some (.next, St217 w os) := by
  have h := drive_execs (p := pw) (w := w) (n₀ := 11) (ann := some (.ref 6)) (env := cenv) ((bodyL.drop 0).take 30) (bodyL.drop 30) _ _ _ (d_0 w os) (e_30 w os)
  rwa [show bodyL.drop 30 = (bodyL.drop 0).drop 30 by rw [List.drop_drop], List.take_append_drop] at h
noncomputable def thrEnd (w : World) (os : OsState) : Thread := match goT w 1 (St217 w os).s ⟨.pure (.done .next), .body bodyL cenv, default, stk1 w os :: stk2 w os⟩ with | some (_, t) => t | none => topStub pw
theorem t_end (w : World) (os : OsState) (pos : Pos) : goT w 1 (St217 w os).s ⟨.pure (.done .next), .body bodyL cenv, pos, stk1 w os :: stk2 w os⟩ = some ((St217 w os).s, thrEnd w os) := by kernel_rfl
noncomputable def Rf (w : World) (os : OsState) : Option SharedT := topRunT treeTable pw w 11 (some (.ref 6)) 443 (St217 w os).s (thrEnd w os)
noncomputable def Ff (w : World) (os : OsState) : SharedT := match Rf w os with | some s => s | none => S0 w os
theorem rf_some (w : World) (os : OsState) : Rf w os = some (Ff w os) := by kernel_rfl
theorem top_run (w : World) (os : OsState) : ∃ M, M ≤ 16172 ∧ topRun treeTable pw w 11 (some (.ref 6)) M ⟨boot_heap w.params, Array.mk [], boot_drawn, boot_toks, os⟩ (topStub pw) = some (Ff w os).abs := by
  obtain ⟨m, hc, hm⟩ := drive_goes (tb := treeTable) (p := pw) (w := w) (n₀ := 11) (ann := some (.ref 6)) ((execs bodyL cenv).onRaise (leaving cenv)) (St0 w os) .next (St217 w os) (drive_onRaise _ _ _ _ (e_0 w os))
  have hm' : m = 7513 := by
    have : 7513 = 0 + m := hc
    omega
  subst hm'
  obtain ⟨pos', h⟩ := hm (fun f => .pure (.done f)) (.body bodyL cenv) ⟨2, 0, 1038, 786⟩ (stk1 w os) (stk2 w os)
  have r := goT_top (c_head w os) (goT_top h (goT_top (t_end w os pos') (topRun_of (rf_some w os))))
  rw [s0_abs] at r
  exact ⟨_, by decide, r⟩

end Mine

end
section
open PySem PySem.W PyProof.Rows
set_option linter.unusedVariables false
set_option maxRecDepth 100000
namespace Mine
inductive Fld where
  | pc | a | x | y | sp | p | cyc | exc | addc | start | bm | am | ahm | spb | mem | name
  deriving DecidableEq
noncomputable def Fld.nm : Fld → Str
  | .pc => "pc" | .a => "a" | .x => "x" | .y => "y" | .sp => "sp" | .p => "p" | .cyc => "processorCycles" | .exc => "excycles" | .addc => "addcycles" | .start => "start_pc"
  | .bm => "byteMask" | .am => "addrMask" | .ahm => "addrHighMask" | .spb => "spBase" | .mem => "memory" | .name => "name"
noncomputable def Fld.all : List Fld := [.pc, .a, .x, .y, .sp, .p, .cyc, .exc, .addc, .start, .bm, .am, .ahm, .spb, .mem, .name]
theorem Fld.mem_all (f : Fld) : f ∈ Fld.all := by cases f <;> decide
theorem Fld.nm_inj : ∀ f g : Fld, f.nm = g.nm → f = g := by
  have : (Fld.all.all fun f => Fld.all.all fun g => decide (f.nm = g.nm → f = g)) = true := by decide +kernel
  intro f g
  have h := List.all_eq_true.mp this f (Fld.mem_all f)
  exact of_decide_eq_true (List.all_eq_true.mp h g (Fld.mem_all g))

inductive V where
  | int (i : Int) | bool (b : Bool) | none | self | meth (m : Nat) | txt | memr | unset
inductive BOp where
  | add | sub | and | or | xor | shl | shr
  deriving DecidableEq
inductive COp where
  | eq | ne | lt | le | gt | ge
  deriving DecidableEq
inductive E where
  | int (i : Int)
  | none
  | var (v : Nat)
  | fld (f : Fld)
  | cst (c : Nat)
  | mref (m : Nat)
  | mem (i : E)
  | tab (t : Nat) (i : E)
  | bin (op : BOp) (a b : E)
  | inv (a : E)
  | cmp (op : COp) (a b : E)
  | isNone (v : Nat)
  | isNoneF (f : Fld)
  | txt
  | bool (b : Bool)
  | stuck
  | call0 (m : Nat)
  | call1 (m : Nat) (a : E)
  | call2 (m : Nat) (a b : E)
  | callV (v : Nat)
  | callT (i : E)
mutual
inductive S where
  | expr (e : E)
  | asgV (v : Nat) (e : E)
  | asgF (f : Fld) (e : E)
  | asgM (i e : E)
  | augV (v : Nat) (op : BOp) (e : E)
  | augF (f : Fld) (op : BOp) (e : E)
  | ite (c : E) (a b : Ss)
  | ret (e : E)
  | ret0
  | pass
inductive Ss where
  | nil
  | cons (s : S) (r : Ss)
end

structure M where
  pc : V
  a : V
  x : V
  y : V
  sp : V
  p : V
  cyc : V
  exc : V
  addc : V
  start : V
  bm : V
  am : V
  ahm : V
  spb : V
  hm : Bool
  hn : Bool
  mem : List Int
noncomputable def M.get (σ : M) : Fld → V
  | .pc => σ.pc | .a => σ.a | .x => σ.x | .y => σ.y | .sp => σ.sp | .p => σ.p | .cyc => σ.cyc | .exc => σ.exc | .addc => σ.addc | .start => σ.start
  | .bm => σ.bm | .am => σ.am | .ahm => σ.ahm | .spb => σ.spb | .mem => (match σ.hm with | true => .memr | false => .unset) | .name => (match σ.hn with | true => .txt | false => .unset)
noncomputable def M.set (σ : M) : Fld → V → Option M
  | .pc, v => some { σ with pc := v } | .a, v => some { σ with a := v } | .x, v => some { σ with x := v } | .y, v => some { σ with y := v } | .sp, v => some { σ with sp := v }
  | .p, v => some { σ with p := v } | .cyc, v => some { σ with cyc := v } | .exc, v => some { σ with exc := v } | .addc, v => some { σ with addc := v } | .start, v => some { σ with start := v }
  | .bm, v => some { σ with bm := v } | .am, v => some { σ with am := v } | .ahm, v => some { σ with ahm := v } | .spb, v => some { σ with spb := v }
  | .mem, .memr => some { σ with hm := true } | .name, .txt => some { σ with hn := true }
  | .mem, _ => none | .name, _ => none
theorem M.get_set {σ σ' : M} {f : Fld} {v : V} (h : σ.set f v = some σ') : σ'.mem = σ.mem ∧ ∀ g, σ'.get g = if g = f then v else σ.get g := by
  cases f
  case mem => cases v <;> cases h; exact ⟨rfl, fun g => by cases g <;> rfl⟩
  case name => cases v <;> cases h; exact ⟨rfl, fun g => by cases g <;> rfl⟩
  all_goals ((injection h with h; subst h); exact ⟨rfl, fun g => by cases g <;> rfl⟩)

structure MethD where
  nm : Str
  np : Nat
  vars : List Str
  body : Ss
structure Cls where
  P : List MethD
  csts : List (Str × Int)
  tabs : List (Str × List Int)
  instrN : Str
  instr : List Nat

noncomputable def truth : V → Option Bool
  | .int i => some (i != 0)
  | .bool b => some b
  | .none => some false
  | _ => Option.none
noncomputable def BOp.ev : BOp → Int → Int → Option Int
  | .add, a, b => some (a + b)
  | .sub, a, b => some (a - b)
  | .and, a, b => some (Builtin.bitAnd a b)
  | .or, a, b => some (Builtin.bitOr a b)
  | .xor, a, b => some (Builtin.bitXor a b)
  | .shl, a, b => if 0 ≤ b ∧ b ≤ 64 ∧ a.natAbs < 2 ^ 64 then some (a * 2 ^ b.toNat) else Option.none
  | .shr, a, b => if 0 ≤ b then some (a.fdiv (2 ^ b.toNat)) else Option.none
noncomputable def COp.ev : COp → Int → Int → Bool
  | .eq, a, b => a == b
  | .ne, a, b => a != b
  | .lt, a, b => decide (a < b)
  | .le, a, b => decide (a ≤ b)
  | .gt, a, b => decide (a > b)
  | .ge, a, b => decide (a ≥ b)
noncomputable def at? (l : List Int) (k : Int) : Option Int := if 0 ≤ k then l[k.toNat]? else Option.none
noncomputable def putAt (l : List Int) (k v : Int) : Option (List Int) := if 0 ≤ k ∧ k.toNat < l.length then some (l.set k.toNat v) else Option.none

noncomputable abbrev Loc := List (Option V)
noncomputable def Loc.at (ρ : Loc) (v : Nat) : Option V := (ρ[v]?).join
section
variable {β : Type}
noncomputable def V.int? : V → Option Int
  | .int i => some i
  | _ => Option.none
noncomputable def V.meth? : V → Option Nat
  | .meth i => some i
  | _ => Option.none
noncomputable def V.got? : V → Option V
  | .unset => Option.none
  | v => some v
noncomputable def V.flat? : V → Option V
  | .unset => Option.none
  | .meth _ => Option.none
  | .self => Option.none
  | v => some v
noncomputable def V.isN? : V → Option Bool
  | .none => some true
  | .int _ => some false
  | .meth _ => some false
  | .memr => some false
  | _ => Option.none
noncomputable def V.isNF? : V → Option Bool
  | .none => some true
  | .int _ => some false
  | _ => Option.none
theorem V.int?_of {v : V} {i : Int} (h : v.int? = some i) : v = .int i := by cases v <;> cases h; rfl
theorem V.meth?_of {v : V} {i : Nat} (h : v.meth? = some i) : v = .meth i := by cases v <;> cases h; rfl
theorem V.got?_of {v u : V} (h : v.got? = some u) : v = u ∧ v ≠ .unset := by cases v <;> cases h <;> exact ⟨rfl, fun h => nomatch h⟩
noncomputable def onI (o : Option (V × M)) (f : Int → M → Option β) : Option β := o.bind fun r => r.1.int?.bind fun i => f i r.2
theorem onI_of {o : Option (V × M)} {f : Int → M → Option β} {r : β} (h : onI o f = some r) : ∃ k σ, o = some (.int k, σ) ∧ f k σ = some r := by
  obtain ⟨⟨v, σ⟩, e, h⟩ := Option.bind_eq_some_iff.mp h
  obtain ⟨i, e', h⟩ := Option.bind_eq_some_iff.mp h
  cases V.int?_of e'
  exact ⟨i, σ, e, h⟩
theorem onI_eq {i : Int} {σ : M} {f : Int → M → Option β} : onI (some (.int i, σ)) f = f i σ := rfl
theorem cond_of {b : Bool} {o : Option β} {r : β} (h : cond b o Option.none = some r) : b = true ∧ o = some r := by cases b; cases h; exact ⟨rfl, h⟩
theorem ite_of {p : Prop} [Decidable p] {o : Option β} {r : β} (h : (if p then o else Option.none) = some r) : p ∧ o = some r := by
  by_cases q : p
  · rw [if_pos q] at h; exact ⟨q, h⟩
  · rw [if_neg q] at h; injection h
theorem bind_of {α : Type} {o : Option α} {f : α → Option β} {r : β} (h : o.bind f = some r) : ∃ a, o = some a ∧ f a = some r := Option.bind_eq_some_iff.mp h
theorem and_el {a b : Bool} {K : Prop} (h : (a && b) = true) (k : a = true → b = true → K) : K := k (Bool.and_eq_true_iff.mp h).1 (Bool.and_eq_true_iff.mp h).2
theorem bind_el {α : Type} {o : Option α} {f : α → Option β} {r : β} {K : Prop} (h : o.bind f = some r) (k : ∀ a, o = some a → f a = some r → K) : K := let ⟨a, h1, h2⟩ := bind_of h; k a h1 h2
theorem map_of {α : Type} {o : Option α} {f : α → β} {r : β} (h : o.map f = some r) : ∃ a, o = some a ∧ f a = r := Option.map_eq_some_iff.mp h
theorem map_el {α : Type} {o : Option α} {f : α → β} {r : β} {K : Prop} (h : o.map f = some r) (k : ∀ a, o = some a → f a = r → K) : K := let ⟨a, h1, h2⟩ := map_of h; k a h1 h2
end

section
variable (c : Cls) (cf : Nat → List V → M → Option (V × M)) (ρ : Loc)
noncomputable def evE : E → M → Option (V × M)
  | .int i, σ => some (.int i, σ)
  | .none, σ => some (.none, σ)
  | .var v, σ => (ρ.at v).map fun x => (x, σ)
  | .fld f, σ => ((σ.get f).got?).map fun v => (v, σ)
  | .cst k, σ => (c.csts[k]?).map fun x => (.int x.2, σ)
  | .mref m, σ => some (.meth m, σ)
  | .mem i, σ => cond σ.hm (onI (evE i σ) fun k σ' => (at? σ'.mem k).map fun x => (.int x, σ')) Option.none
  | .tab t i, σ => onI (evE i σ) fun k σ' => (c.tabs[t]?).bind fun l => (at? l.2 k).map fun x => (.int x, σ')
  | .bin op a b, σ => onI (evE a σ) fun i σ₁ => onI (evE b σ₁) fun j σ₂ => (op.ev i j).map fun r => (.int r, σ₂)
  | .inv a, σ => onI (evE a σ) fun i σ₁ => some (.int (Builtin.bitNot i), σ₁)
  | .cmp op a b, σ => onI (evE a σ) fun i σ₁ => onI (evE b σ₁) fun j σ₂ => some (.bool (op.ev i j), σ₂)
  | .isNone v, σ => (ρ.at v).bind fun u => u.isN?.map fun b => (.bool b, σ)
  | .isNoneF f, σ => (σ.get f).isNF?.map fun b => (.bool b, σ)
  | .txt, σ => some (.txt, σ)
  | .bool b, σ => some (.bool b, σ)
  | .stuck, _ => Option.none
  | .call0 m, σ => cf m [] σ
  | .call1 m a, σ => (evE a σ).bind fun r => cf m [r.1] r.2
  | .call2 m a b, σ => (evE a σ).bind fun r => (evE b r.2).bind fun r₂ => cf m [r.1, r₂.1] r₂.2
  | .callV v, σ => (ρ.at v).bind fun u => u.meth?.bind fun m => cf m [] σ
  | .callT i, σ => onI (evE i σ) fun k σ₁ => if 0 ≤ k then (c.instr[k.toNat]?).bind fun m => cf m [] σ₁ else Option.none
end
inductive Fl where
  | next
  | ret (v : V)
section
variable (c : Cls) (cf : Nat → List V → M → Option (V × M))
mutual
noncomputable def exS : S → Loc → M → Option (Fl × Loc × M)
  | .expr e, ρ, σ => (evE c cf ρ e σ).map fun r => (.next, ρ, r.2)
  | .asgV v e, ρ, σ => (evE c cf ρ e σ).bind fun r => if v < ρ.length then some (.next, ρ.set v (some r.1), r.2) else Option.none
  | .asgF f e, ρ, σ => (evE c cf ρ e σ).bind fun r => r.1.flat?.bind fun x => (r.2.set f x).map fun σ₂ => (.next, ρ, σ₂)
  | .asgM i e, ρ, σ => onI (evE c cf ρ e σ) fun x σ₁ => cond σ₁.hm (onI (evE c cf ρ i σ₁) fun k σ₂ => (putAt σ₂.mem k x).map fun l => (.next, ρ, { σ₂ with mem := l })) Option.none
  | .augV v op e, ρ, σ => (ρ.at v).bind fun u => u.int?.bind fun a => onI (evE c cf ρ e σ) fun b σ₁ => (op.ev a b).bind fun r => if v < ρ.length then some (.next, ρ.set v (some (.int r)), σ₁) else Option.none
  | .augF f op e, ρ, σ => (σ.get f).int?.bind fun a => onI (evE c cf ρ e σ) fun b σ₁ => (op.ev a b).bind fun r => (σ₁.set f (.int r)).map fun σ₂ => (.next, ρ, σ₂)
  | .ite t a b, ρ, σ => (evE c cf ρ t σ).bind fun r => (truth r.1).bind fun q => cond q (exSs a ρ r.2) (exSs b ρ r.2)
  | .ret e, ρ, σ => (evE c cf ρ e σ).map fun r => (.ret r.1, ρ, r.2)
  | .ret0, ρ, σ => some (.ret .none, ρ, σ)
  | .pass, ρ, σ => some (.next, ρ, σ)
noncomputable def exSs : Ss → Loc → M → Option (Fl × Loc × M)
  | .nil, ρ, σ => some (.next, ρ, σ)
  | .cons s r, ρ, σ => (exS s ρ σ).bind fun q => match q.1 with
    | .next => exSs r q.2.1 q.2.2
    | .ret v => some (.ret v, q.2)
end
end
noncomputable def Fl.out : Fl → V
  | .next => .none
  | .ret v => v
noncomputable def callM (c : Cls) : Nat → Nat → List V → M → Option (V × M)
  | 0, _, _, _ => Option.none
  | d + 1, m, args, σ => (c.P[m]?).bind fun md => if args.length + 1 = md.np then (exSs c (callM c d) md.body ((some V.self :: args.map some) ++ List.replicate (md.vars.length - md.np) Option.none) σ).map fun r => (r.1.out, r.2.2) else Option.none
noncomputable def BOp.op : BOp → Operator
  | .add => .Add | .sub => .Sub | .and => .BitAnd | .or => .BitOr | .xor => .BitXor | .shl => .LShift | .shr => .RShift
noncomputable def COp.op : COp → CmpOp
  | .eq => .Eq | .ne => .NotEq | .lt => .Lt | .le => .LtE | .gt => .Gt | .ge => .GtE
noncomputable def plainE : PySem.Expr → Bool
  | .Name .. => true | .Attribute .. => true | .Call .. => true | .BinOp .. => true | .Subscript .. => true | .UnaryOp .. => true | .Constant (.int _) _ _ => true | .Constant (.str _) _ _ => true | .Constant (.bool _) _ _ => true | .Constant .none _ _ => true
  | _ => false
noncomputable def o_Constant (x : PySem.Expr) (f : PySem.Const → Nat → Pos → Bool) : Bool := if h : x.ctorIdx = 19 then PySem.Expr.Constant.elim (motive_1 := fun _ => Bool) x h f else false
theorem o_Constant_elim {x : PySem.Expr} {f : PySem.Const → Nat → Pos → Bool} {P : PySem.Expr → Prop} (h : o_Constant x f = true) (k : ∀ a0 a1 a2, f a0 a1 a2 = true → P (.Constant a0 a1 a2)) : P x := by
  by_cases e : x.ctorIdx = 19
  · exact PySem.Expr.Constant.elim (motive_1 := fun x => o_Constant x f = true → P x) x e (fun a0 a1 a2 h => k a0 a1 a2 h) h
  · exact absurd ((dif_neg e).symm.trans h) Bool.false_ne_true
noncomputable def o_Name (x : PySem.Expr) (f : Str → Pos → Bool) : Bool := if h : x.ctorIdx = 23 then PySem.Expr.Name.elim (motive_1 := fun _ => Bool) x h f else false
theorem o_Name_elim {x : PySem.Expr} {f : Str → Pos → Bool} {P : PySem.Expr → Prop} (h : o_Name x f = true) (k : ∀ a0 a1, f a0 a1 = true → P (.Name a0 a1)) : P x := by
  by_cases e : x.ctorIdx = 23
  · exact PySem.Expr.Name.elim (motive_1 := fun x => o_Name x f = true → P x) x e (fun a0 a1 h => k a0 a1 h) h
  · exact absurd ((dif_neg e).symm.trans h) Bool.false_ne_true
noncomputable def o_Attribute (x : PySem.Expr) (f : PySem.Expr → Str → Pos → Bool) : Bool := if h : x.ctorIdx = 20 then PySem.Expr.Attribute.elim (motive_1 := fun _ => Bool) x h f else false
theorem o_Attribute_elim {x : PySem.Expr} {f : PySem.Expr → Str → Pos → Bool} {P : PySem.Expr → Prop} (h : o_Attribute x f = true) (k : ∀ a0 a1 a2, f a0 a1 a2 = true → P (.Attribute a0 a1 a2)) : P x := by
  by_cases e : x.ctorIdx = 20
  · exact PySem.Expr.Attribute.elim (motive_1 := fun x => o_Attribute x f = true → P x) x e (fun a0 a1 a2 h => k a0 a1 a2 h) h
  · exact absurd ((dif_neg e).symm.trans h) Bool.false_ne_true
noncomputable def o_Subscript (x : PySem.Expr) (f : PySem.Expr → PySem.Expr → Pos → Bool) : Bool := if h : x.ctorIdx = 21 then PySem.Expr.Subscript.elim (motive_1 := fun _ => Bool) x h f else false
theorem o_Subscript_elim {x : PySem.Expr} {f : PySem.Expr → PySem.Expr → Pos → Bool} {P : PySem.Expr → Prop} (h : o_Subscript x f = true) (k : ∀ a0 a1 a2, f a0 a1 a2 = true → P (.Subscript a0 a1 a2)) : P x := by
  by_cases e : x.ctorIdx = 21
  · exact PySem.Expr.Subscript.elim (motive_1 := fun x => o_Subscript x f = true → P x) x e (fun a0 a1 a2 h => k a0 a1 a2 h) h
  · exact absurd ((dif_neg e).symm.trans h) Bool.false_ne_true
noncomputable def o_BinOp (x : PySem.Expr) (f : PySem.Expr → Operator → PySem.Expr → Pos → Bool) : Bool := if h : x.ctorIdx = 2 then PySem.Expr.BinOp.elim (motive_1 := fun _ => Bool) x h f else false
theorem o_BinOp_elim {x : PySem.Expr} {f : PySem.Expr → Operator → PySem.Expr → Pos → Bool} {P : PySem.Expr → Prop} (h : o_BinOp x f = true) (k : ∀ a0 a1 a2 a3, f a0 a1 a2 a3 = true → P (.BinOp a0 a1 a2 a3)) : P x := by
  by_cases e : x.ctorIdx = 2
  · exact PySem.Expr.BinOp.elim (motive_1 := fun x => o_BinOp x f = true → P x) x e (fun a0 a1 a2 a3 h => k a0 a1 a2 a3 h) h
  · exact absurd ((dif_neg e).symm.trans h) Bool.false_ne_true
noncomputable def o_UnaryOp (x : PySem.Expr) (f : PySem.UnaryOp → PySem.Expr → Pos → Bool) : Bool := if h : x.ctorIdx = 3 then PySem.Expr.UnaryOp.elim (motive_1 := fun _ => Bool) x h f else false
theorem o_UnaryOp_elim {x : PySem.Expr} {f : PySem.UnaryOp → PySem.Expr → Pos → Bool} {P : PySem.Expr → Prop} (h : o_UnaryOp x f = true) (k : ∀ a0 a1 a2, f a0 a1 a2 = true → P (.UnaryOp a0 a1 a2)) : P x := by
  by_cases e : x.ctorIdx = 3
  · exact PySem.Expr.UnaryOp.elim (motive_1 := fun x => o_UnaryOp x f = true → P x) x e (fun a0 a1 a2 h => k a0 a1 a2 h) h
  · exact absurd ((dif_neg e).symm.trans h) Bool.false_ne_true
noncomputable def o_Compare (x : PySem.Expr) (f : PySem.Expr → (List CmpOp) → (List PySem.Expr) → Pos → Bool) : Bool := if h : x.ctorIdx = 15 then PySem.Expr.Compare.elim (motive_1 := fun _ => Bool) x h f else false
theorem o_Compare_elim {x : PySem.Expr} {f : PySem.Expr → (List CmpOp) → (List PySem.Expr) → Pos → Bool} {P : PySem.Expr → Prop} (h : o_Compare x f = true) (k : ∀ a0 a1 a2 a3, f a0 a1 a2 a3 = true → P (.Compare a0 a1 a2 a3)) : P x := by
  by_cases e : x.ctorIdx = 15
  · exact PySem.Expr.Compare.elim (motive_1 := fun x => o_Compare x f = true → P x) x e (fun a0 a1 a2 a3 h => k a0 a1 a2 a3 h) h
  · exact absurd ((dif_neg e).symm.trans h) Bool.false_ne_true
noncomputable def o_BoolOp (x : PySem.Expr) (f : PySem.BoolOp → (List PySem.Expr) → Pos → Bool) : Bool := if h : x.ctorIdx = 0 then PySem.Expr.BoolOp.elim (motive_1 := fun _ => Bool) x h f else false
theorem o_BoolOp_elim {x : PySem.Expr} {f : PySem.BoolOp → (List PySem.Expr) → Pos → Bool} {P : PySem.Expr → Prop} (h : o_BoolOp x f = true) (k : ∀ a0 a1 a2, f a0 a1 a2 = true → P (.BoolOp a0 a1 a2)) : P x := by
  by_cases e : x.ctorIdx = 0
  · exact PySem.Expr.BoolOp.elim (motive_1 := fun x => o_BoolOp x f = true → P x) x e (fun a0 a1 a2 h => k a0 a1 a2 h) h
  · exact absurd ((dif_neg e).symm.trans h) Bool.false_ne_true
noncomputable def o_IfExp (x : PySem.Expr) (f : PySem.Expr → PySem.Expr → PySem.Expr → Pos → Bool) : Bool := if h : x.ctorIdx = 5 then PySem.Expr.IfExp.elim (motive_1 := fun _ => Bool) x h f else false
theorem o_IfExp_elim {x : PySem.Expr} {f : PySem.Expr → PySem.Expr → PySem.Expr → Pos → Bool} {P : PySem.Expr → Prop} (h : o_IfExp x f = true) (k : ∀ a0 a1 a2 a3, f a0 a1 a2 a3 = true → P (.IfExp a0 a1 a2 a3)) : P x := by
  by_cases e : x.ctorIdx = 5
  · exact PySem.Expr.IfExp.elim (motive_1 := fun x => o_IfExp x f = true → P x) x e (fun a0 a1 a2 a3 h => k a0 a1 a2 a3 h) h
  · exact absurd ((dif_neg e).symm.trans h) Bool.false_ne_true
noncomputable def o_Slice (x : PySem.Expr) (f : (Option PySem.Expr) → (Option PySem.Expr) → (Option PySem.Expr) → Pos → Bool) : Bool := if h : x.ctorIdx = 26 then PySem.Expr.Slice.elim (motive_1 := fun _ => Bool) x h f else false
theorem o_Slice_elim {x : PySem.Expr} {f : (Option PySem.Expr) → (Option PySem.Expr) → (Option PySem.Expr) → Pos → Bool} {P : PySem.Expr → Prop} (h : o_Slice x f = true) (k : ∀ a0 a1 a2 a3, f a0 a1 a2 a3 = true → P (.Slice a0 a1 a2 a3)) : P x := by
  by_cases e : x.ctorIdx = 26
  · exact PySem.Expr.Slice.elim (motive_1 := fun x => o_Slice x f = true → P x) x e (fun a0 a1 a2 a3 h => k a0 a1 a2 a3 h) h
  · exact absurd ((dif_neg e).symm.trans h) Bool.false_ne_true
noncomputable def o_Call (x : PySem.Expr) (f : PySem.Expr → (List PySem.Expr) → (List Keyword) → Pos → Bool) : Bool := if h : x.ctorIdx = 16 then PySem.Expr.Call.elim (motive_1 := fun _ => Bool) x h f else false
theorem o_Call_elim {x : PySem.Expr} {f : PySem.Expr → (List PySem.Expr) → (List Keyword) → Pos → Bool} {P : PySem.Expr → Prop} (h : o_Call x f = true) (k : ∀ a0 a1 a2 a3, f a0 a1 a2 a3 = true → P (.Call a0 a1 a2 a3)) : P x := by
  by_cases e : x.ctorIdx = 16
  · exact PySem.Expr.Call.elim (motive_1 := fun x => o_Call x f = true → P x) x e (fun a0 a1 a2 a3 h => k a0 a1 a2 a3 h) h
  · exact absurd ((dif_neg e).symm.trans h) Bool.false_ne_true
noncomputable def o_List (x : PySem.Expr) (f : (List PySem.Expr) → Pos → Bool) : Bool := if h : x.ctorIdx = 24 then PySem.Expr.List.elim (motive_1 := fun _ => Bool) x h f else false
theorem o_List_elim {x : PySem.Expr} {f : (List PySem.Expr) → Pos → Bool} {P : PySem.Expr → Prop} (h : o_List x f = true) (k : ∀ a0 a1, f a0 a1 = true → P (.List a0 a1)) : P x := by
  by_cases e : x.ctorIdx = 24
  · exact PySem.Expr.List.elim (motive_1 := fun x => o_List x f = true → P x) x e (fun a0 a1 h => k a0 a1 h) h
  · exact absurd ((dif_neg e).symm.trans h) Bool.false_ne_true
noncomputable def o_Tuple (x : PySem.Expr) (f : (List PySem.Expr) → Nat → Pos → Bool) : Bool := if h : x.ctorIdx = 25 then PySem.Expr.Tuple.elim (motive_1 := fun _ => Bool) x h f else false
theorem o_Tuple_elim {x : PySem.Expr} {f : (List PySem.Expr) → Nat → Pos → Bool} {P : PySem.Expr → Prop} (h : o_Tuple x f = true) (k : ∀ a0 a1 a2, f a0 a1 a2 = true → P (.Tuple a0 a1 a2)) : P x := by
  by_cases e : x.ctorIdx = 25
  · exact PySem.Expr.Tuple.elim (motive_1 := fun x => o_Tuple x f = true → P x) x e (fun a0 a1 a2 h => k a0 a1 a2 h) h
  · exact absurd ((dif_neg e).symm.trans h) Bool.false_ne_true
noncomputable def o_ListComp (x : PySem.Expr) (f : PySem.Expr → (List Comprehension) → Scope → Pos → Bool) : Bool := if h : x.ctorIdx = 8 then PySem.Expr.ListComp.elim (motive_1 := fun _ => Bool) x h f else false
theorem o_ListComp_elim {x : PySem.Expr} {f : PySem.Expr → (List Comprehension) → Scope → Pos → Bool} {P : PySem.Expr → Prop} (h : o_ListComp x f = true) (k : ∀ a0 a1 a2 a3, f a0 a1 a2 a3 = true → P (.ListComp a0 a1 a2 a3)) : P x := by
  by_cases e : x.ctorIdx = 8
  · exact PySem.Expr.ListComp.elim (motive_1 := fun x => o_ListComp x f = true → P x) x e (fun a0 a1 a2 a3 h => k a0 a1 a2 a3 h) h
  · exact absurd ((dif_neg e).symm.trans h) Bool.false_ne_true
noncomputable def o_int (x : PySem.Const) (f : Int → Bool) : Bool := if h : x.ctorIdx = 2 then PySem.Const.int.elim (motive := fun _ => Bool) x h f else false
theorem o_int_elim {x : PySem.Const} {f : Int → Bool} {P : PySem.Const → Prop} (h : o_int x f = true) (k : ∀ a0, f a0 = true → P (.int a0)) : P x := by
  by_cases e : x.ctorIdx = 2
  · exact PySem.Const.int.elim (motive := fun x => o_int x f = true → P x) x e (fun a0 h => k a0 h) h
  · exact absurd ((dif_neg e).symm.trans h) Bool.false_ne_true
noncomputable def o_bool (x : PySem.Const) (f : Bool → Bool) : Bool := if h : x.ctorIdx = 1 then PySem.Const.bool.elim (motive := fun _ => Bool) x h f else false
theorem o_bool_elim {x : PySem.Const} {f : Bool → Bool} {P : PySem.Const → Prop} (h : o_bool x f = true) (k : ∀ a0, f a0 = true → P (.bool a0)) : P x := by
  by_cases e : x.ctorIdx = 1
  · exact PySem.Const.bool.elim (motive := fun x => o_bool x f = true → P x) x e (fun a0 h => k a0 h) h
  · exact absurd ((dif_neg e).symm.trans h) Bool.false_ne_true
noncomputable def o_str (x : PySem.Const) (f : Str → Bool) : Bool := if h : x.ctorIdx = 5 then PySem.Const.str.elim (motive := fun _ => Bool) x h f else false
theorem o_str_elim {x : PySem.Const} {f : Str → Bool} {P : PySem.Const → Prop} (h : o_str x f = true) (k : ∀ a0, f a0 = true → P (.str a0)) : P x := by
  by_cases e : x.ctorIdx = 5
  · exact PySem.Const.str.elim (motive := fun x => o_str x f = true → P x) x e (fun a0 h => k a0 h) h
  · exact absurd ((dif_neg e).symm.trans h) Bool.false_ne_true
noncomputable def o_none (x : PySem.Const) (f : Bool) : Bool := if h : x.ctorIdx = 0 then PySem.Const.none.elim (motive := fun _ => Bool) x h f else false
theorem o_none_elim {x : PySem.Const} {f : Bool} {P : PySem.Const → Prop} (h : o_none x f = true) (k : f = true → P .none) : P x := by
  by_cases e : x.ctorIdx = 0
  · exact PySem.Const.none.elim (motive := fun x => o_none x f = true → P x) x e (fun h => k h) h
  · exact absurd ((dif_neg e).symm.trans h) Bool.false_ne_true
noncomputable def o_Expr (x : Stmt) (f : PySem.Expr → Pos → Bool) : Bool := if h : x.ctorIdx = 24 then PySem.Stmt.Expr.elim (motive_2 := fun _ => Bool) x h f else false
theorem o_Expr_elim {x : Stmt} {f : PySem.Expr → Pos → Bool} {P : Stmt → Prop} (h : o_Expr x f = true) (k : ∀ a0 a1, f a0 a1 = true → P (.Expr a0 a1)) : P x := by
  by_cases e : x.ctorIdx = 24
  · exact PySem.Stmt.Expr.elim (motive_2 := fun x => o_Expr x f = true → P x) x e (fun a0 a1 h => k a0 a1 h) h
  · exact absurd ((dif_neg e).symm.trans h) Bool.false_ne_true
noncomputable def o_Assign (x : Stmt) (f : (List PySem.Expr) → PySem.Expr → Pos → Bool) : Bool := if h : x.ctorIdx = 5 then PySem.Stmt.Assign.elim (motive_2 := fun _ => Bool) x h f else false
theorem o_Assign_elim {x : Stmt} {f : (List PySem.Expr) → PySem.Expr → Pos → Bool} {P : Stmt → Prop} (h : o_Assign x f = true) (k : ∀ a0 a1 a2, f a0 a1 a2 = true → P (.Assign a0 a1 a2)) : P x := by
  by_cases e : x.ctorIdx = 5
  · exact PySem.Stmt.Assign.elim (motive_2 := fun x => o_Assign x f = true → P x) x e (fun a0 a1 a2 h => k a0 a1 a2 h) h
  · exact absurd ((dif_neg e).symm.trans h) Bool.false_ne_true
noncomputable def o_AugAssign (x : Stmt) (f : PySem.Expr → Operator → PySem.Expr → Pos → Bool) : Bool := if h : x.ctorIdx = 7 then PySem.Stmt.AugAssign.elim (motive_2 := fun _ => Bool) x h f else false
theorem o_AugAssign_elim {x : Stmt} {f : PySem.Expr → Operator → PySem.Expr → Pos → Bool} {P : Stmt → Prop} (h : o_AugAssign x f = true) (k : ∀ a0 a1 a2 a3, f a0 a1 a2 a3 = true → P (.AugAssign a0 a1 a2 a3)) : P x := by
  by_cases e : x.ctorIdx = 7
  · exact PySem.Stmt.AugAssign.elim (motive_2 := fun x => o_AugAssign x f = true → P x) x e (fun a0 a1 a2 a3 h => k a0 a1 a2 a3 h) h
  · exact absurd ((dif_neg e).symm.trans h) Bool.false_ne_true
noncomputable def o_If (x : Stmt) (f : PySem.Expr → (List Stmt) → (List Stmt) → Pos → Bool) : Bool := if h : x.ctorIdx = 12 then PySem.Stmt.If.elim (motive_2 := fun _ => Bool) x h f else false
theorem o_If_elim {x : Stmt} {f : PySem.Expr → (List Stmt) → (List Stmt) → Pos → Bool} {P : Stmt → Prop} (h : o_If x f = true) (k : ∀ a0 a1 a2 a3, f a0 a1 a2 a3 = true → P (.If a0 a1 a2 a3)) : P x := by
  by_cases e : x.ctorIdx = 12
  · exact PySem.Stmt.If.elim (motive_2 := fun x => o_If x f = true → P x) x e (fun a0 a1 a2 a3 h => k a0 a1 a2 a3 h) h
  · exact absurd ((dif_neg e).symm.trans h) Bool.false_ne_true
noncomputable def o_For (x : Stmt) (f : PySem.Expr → PySem.Expr → (List Stmt) → (List Stmt) → Pos → Bool) : Bool := if h : x.ctorIdx = 9 then PySem.Stmt.For.elim (motive_2 := fun _ => Bool) x h f else false
theorem o_For_elim {x : Stmt} {f : PySem.Expr → PySem.Expr → (List Stmt) → (List Stmt) → Pos → Bool} {P : Stmt → Prop} (h : o_For x f = true) (k : ∀ a0 a1 a2 a3 a4, f a0 a1 a2 a3 a4 = true → P (.For a0 a1 a2 a3 a4)) : P x := by
  by_cases e : x.ctorIdx = 9
  · exact PySem.Stmt.For.elim (motive_2 := fun x => o_For x f = true → P x) x e (fun a0 a1 a2 a3 a4 h => k a0 a1 a2 a3 a4 h) h
  · exact absurd ((dif_neg e).symm.trans h) Bool.false_ne_true
noncomputable def o_While (x : Stmt) (f : PySem.Expr → (List Stmt) → (List Stmt) → Pos → Bool) : Bool := if h : x.ctorIdx = 11 then PySem.Stmt.While.elim (motive_2 := fun _ => Bool) x h f else false
noncomputable def o_Return (x : Stmt) (f : (Option PySem.Expr) → Pos → Bool) : Bool := if h : x.ctorIdx = 3 then PySem.Stmt.Return.elim (motive_2 := fun _ => Bool) x h f else false
theorem o_Return_elim {x : Stmt} {f : (Option PySem.Expr) → Pos → Bool} {P : Stmt → Prop} (h : o_Return x f = true) (k : ∀ a0 a1, f a0 a1 = true → P (.Return a0 a1)) : P x := by
  by_cases e : x.ctorIdx = 3
  · exact PySem.Stmt.Return.elim (motive_2 := fun x => o_Return x f = true → P x) x e (fun a0 a1 h => k a0 a1 h) h
  · exact absurd ((dif_neg e).symm.trans h) Bool.false_ne_true
noncomputable def o_Break (x : Stmt) (f : Pos → Bool) : Bool := if h : x.ctorIdx = 26 then PySem.Stmt.Break.elim (motive_2 := fun _ => Bool) x h f else false
theorem o_Break_elim {x : Stmt} {f : Pos → Bool} {P : Stmt → Prop} (h : o_Break x f = true) (k : ∀ a0, f a0 = true → P (.Break a0)) : P x := by
  by_cases e : x.ctorIdx = 26
  · exact PySem.Stmt.Break.elim (motive_2 := fun x => o_Break x f = true → P x) x e (fun a0 h => k a0 h) h
  · exact absurd ((dif_neg e).symm.trans h) Bool.false_ne_true
noncomputable def o_Pass (x : Stmt) (f : Pos → Bool) : Bool := if h : x.ctorIdx = 25 then PySem.Stmt.Pass.elim (motive_2 := fun _ => Bool) x h f else false
theorem o_Pass_elim {x : Stmt} {f : Pos → Bool} {P : Stmt → Prop} (h : o_Pass x f = true) (k : ∀ a0, f a0 = true → P (.Pass a0)) : P x := by
  by_cases e : x.ctorIdx = 25
  · exact PySem.Stmt.Pass.elim (motive_2 := fun x => o_Pass x f = true → P x) x e (fun a0 h => k a0 h) h
  · exact absurd ((dif_neg e).symm.trans h) Bool.false_ne_true
noncomputable def o_nil {α : Type} (x : List α) (f : Bool) : Bool := match x with
  | [] => f
  | _ => false
theorem o_nil_elim {α : Type} {x : List α} {f : Bool} {P : List α → Prop} (h : o_nil x f = true) (k : f = true → P []) : P x := by
  cases x with
  | nil => exact k h
  | cons _ _ => exact absurd h Bool.false_ne_true
noncomputable def o_cons {α : Type} (x : List α) (f : α → List α → Bool) : Bool := match x with
  | a :: l => f a l
  | _ => false
theorem o_cons_elim {α : Type} {x : List α} {f : α → List α → Bool} {P : List α → Prop} (h : o_cons x f = true) (k : ∀ a l, f a l = true → P (a :: l)) : P x := by
  cases x with
  | nil => exact absurd h Bool.false_ne_true
  | cons a l => exact k a l h
noncomputable def o_some {α : Type} (x : Option α) (f : α → Bool) : Bool := match x with
  | some a => f a
  | _ => false
theorem o_some_elim {α : Type} {x : Option α} {f : α → Bool} {P : Option α → Prop} (h : o_some x f = true) (k : ∀ a, f a = true → P (some a)) : P x := by
  cases x with
  | none => exact absurd h Bool.false_ne_true
  | some a => exact k a h
noncomputable def o_non {α : Type} (x : Option α) (f : Bool) : Bool := match x with
  | Option.none => f
  | _ => false
theorem o_non_elim {α : Type} {x : Option α} {f : Bool} {P : Option α → Prop} (h : o_non x f = true) (k : f = true → P Option.none) : P x := by
  cases x with
  | none => exact k h
  | some a => exact absurd h Bool.false_ne_true
noncomputable def o_G (x : Comprehension) (f : PySem.Expr → PySem.Expr → List PySem.Expr → Int → Bool) : Bool := match x with
  | ⟨a, b, c, d⟩ => f a b c d
theorem o_G_elim {x : Comprehension} {f : PySem.Expr → PySem.Expr → List PySem.Expr → Int → Bool} {P : Comprehension → Prop} (h : o_G x f = true) (k : ∀ a b c d, f a b c d = true → P ⟨a, b, c, d⟩) : P x := by
  cases x
  exact k _ _ _ _ h
noncomputable def o_K (x : Keyword) (f : Option Str → PySem.Expr → Pos → Bool) : Bool := match x with
  | ⟨a, b, c⟩ => f a b c
theorem o_K_elim {x : Keyword} {f : Option Str → PySem.Expr → Pos → Bool} {P : Keyword → Prop} (h : o_K x f = true) (k : ∀ a b c, f a b c = true → P ⟨a, b, c⟩) : P x := by
  cases x
  exact k _ _ _ h
noncomputable def isSelf (e : PySem.Expr) : Bool := o_Name e fun n _ => n == ("self" : Str)
section
variable (c : Cls) (vars : List Str)
noncomputable def isVar (v : Nat) (n : Str) : Bool := vars[v]? == some n
noncomputable def isMeth (m : Nat) (n : Str) : Bool := match c.P[m]? with | some md => md.nm == n | Option.none => false
noncomputable def trE : E → PySem.Expr → Bool
  | .int i, x₀ => o_Constant x₀ fun z1 z2 z3 => o_int z1 fun j => i == j
  | .none, x₀ => o_Constant x₀ fun z1 z2 z3 => o_none z1 (true)
  | .var v, x₀ => o_Name x₀ fun n z1 => isVar vars v n
  | .fld f, x₀ => o_Attribute x₀ fun b n z1 => isSelf b && f.nm == n
  | .cst k, x₀ => o_Attribute x₀ fun b n z1 => isSelf b && (match c.csts[k]? with | some x => x.1 == n | Option.none => false)
  | .mref m, x₀ => o_Attribute x₀ fun b n z1 => isSelf b && isMeth c m n
  | .mem i, x₀ => o_Subscript x₀ fun z1 e z2 => o_Attribute z1 fun b n z3 => isSelf b && (n == ("memory" : Str)) && plainE e && trE i e
  | .tab t i, x₀ => o_Subscript x₀ fun z1 e z2 => o_Attribute z1 fun b n z3 => isSelf b && (match c.tabs[t]? with | some x => x.1 == n | Option.none => false) && plainE e && trE i e
  | .bin op a b, x₀ => o_BinOp x₀ fun l o r z1 => o == op.op && trE a l && trE b r
  | .inv a, x₀ => o_UnaryOp x₀ fun o e z1 => o == .Invert && trE a e
  | .cmp op a b, x₀ => o_Compare x₀ fun l z1 z2 z3 => o_cons z1 fun o z4 => o_nil z4 (o_cons z2 fun r z5 => o_nil z5 (o == op.op && plainE r && trE a l && trE b r))
  | .isNone v, x₀ => o_Compare x₀ fun z1 z2 z3 z4 => o_Name z1 fun n z5 => o_cons z2 fun o z6 => o_nil z6 (o_cons z3 fun z7 z8 => o_Constant z7 fun z9 z10 z11 => o_none z9 (o_nil z8 (o == .Is && isVar vars v n)))
  | .isNoneF f, x₀ => o_Compare x₀ fun z1 z2 z3 z4 => o_Attribute z1 fun b n z5 => o_cons z2 fun o z6 => o_nil z6 (o_cons z3 fun z7 z8 => o_Constant z7 fun z9 z10 z11 => o_none z9 (o_nil z8 (o == .Is && isSelf b && f.nm == n)))
  | .txt, x₀ => o_Constant x₀ fun z1 z2 z3 => o_str z1 fun z4 => true
  | .bool b, x₀ => o_Constant x₀ fun z1 z2 z3 => o_bool z1 fun d => b == d
  | .stuck, _ => true
  | .call0 m, x₀ => o_Call x₀ fun z1 z2 z3 p => o_Attribute z1 fun b n ap => o_nil z2 (o_nil z3 (isSelf b && isMeth c m n && ap.endLine == p.line))
  | .call1 m a, x₀ => o_Call x₀ fun z1 z2 z3 p => o_Attribute z1 fun b n ap => o_cons z2 fun e z4 => o_nil z4 (o_nil z3 (isSelf b && isMeth c m n && ap.endLine == p.line && plainE e && trE a e))
  | .call2 m a d, x₀ => o_Call x₀ fun z1 z2 z3 p => o_Attribute z1 fun b n ap => o_cons z2 fun e z4 => o_cons z4 fun f z5 => o_nil z5 (o_nil z3 (isSelf b && isMeth c m n && ap.endLine == p.line && plainE e && plainE f && trE a e && trE d f))
  | .callV v, x₀ => o_Call x₀ fun z1 z2 z3 z4 => o_Name z1 fun n z5 => o_nil z2 (o_nil z3 (isVar vars v n))
  | .callT i, x₀ => o_Call x₀ fun z1 z2 z3 z4 => o_Subscript z1 fun z5 e z6 => o_Attribute z5 fun b n z7 => o_cons z2 fun z8 z9 => o_Name z8 fun s z10 => o_nil z9 (o_nil z3 (isSelf b && (n == c.instrN) && plainE e && trE i e && (s == ("self" : Str))))
noncomputable def cmpE : E → Bool
  | .cmp _ _ _ => true
  | .isNone _ => true
  | .isNoneF _ => true
  | _ => false
noncomputable def plainT : PySem.Expr → Bool
  | .Name .. => true | .Attribute .. => true | .Call .. => true | .BinOp .. => true | .Subscript .. => true | .Constant .. => true
  | _ => false
mutual
noncomputable def trS : S → Stmt → Bool
  | .expr e, x₀ => o_Expr x₀ fun x z1 => plainE x && trE c vars e x
  | .asgV v e, x₀ => o_Assign x₀ fun z1 x z2 => o_cons z1 fun z3 z4 => o_Name z3 fun n z5 => o_nil z4 (v != 0 && isVar vars v n && plainE x && trE c vars e x)
  | .asgF f e, x₀ => o_Assign x₀ fun z1 x z2 => o_cons z1 fun z3 z4 => o_Attribute z3 fun b n z5 => o_nil z4 (isSelf b && f.nm == n && plainE x && trE c vars e x)
  | .asgM i e, x₀ => o_Assign x₀ fun z1 y z2 => o_cons z1 fun z3 z4 => o_Subscript z3 fun z5 x z6 => o_Attribute z5 fun b n z7 => o_nil z4 (isSelf b && (n == ("memory" : Str)) && plainE x && plainE y && trE c vars i x && trE c vars e y)
  | .augV v op e, x₀ => o_AugAssign x₀ fun z1 o x z2 => o_Name z1 fun n z3 => v != 0 && isVar vars v n && o == op.op && trE c vars e x
  | .augF f op e, x₀ => o_AugAssign x₀ fun z1 o x z2 => o_Attribute z1 fun b n z3 => isSelf b && f.nm == n && o == op.op && trE c vars e x
  | .ite t a b, x₀ => o_If x₀ fun x l r z1 => (cmpE t || plainT x) && trE c vars t x && trSs a l && trSs b r
  | .ret e, x₀ => o_Return x₀ fun z1 z2 => o_some z1 fun x => trE c vars e x
  | .ret0, x₀ => o_Return x₀ fun z1 z2 => o_non z1 (true)
  | .pass, x₀ => o_Pass x₀ fun z1 => true
noncomputable def trSs : Ss → List Stmt → Bool
  | .nil, [] => true
  | .cons s r, x :: l => trS s x && trSs r l
  | _, _ => false
end
end
section
variable {c : Cls} {vars : List Str}
theorem inv_trE_int {i : Int} {x₀ : PySem.Expr} (h : trE c vars (.int i) x₀ = true) : ∃ j y1 y2, x₀ = (.Constant (.int j) y1 y2) ∧ (i == j) = true := by
  apply o_Constant_elim h; intro z1 z2 z3 h
  apply o_int_elim h; intro j h
  exact ⟨_, _, _, rfl, h⟩
theorem inv_trE_none  {x₀ : PySem.Expr} (h : trE c vars .none x₀ = true) : ∃ y1 y2, x₀ = (.Constant (.none) y1 y2) ∧ (true) = true := by
  apply o_Constant_elim h; intro z1 z2 z3 h
  apply o_none_elim h; intro h
  exact ⟨_, _, rfl, h⟩
theorem inv_trE_var {v : Nat} {x₀ : PySem.Expr} (h : trE c vars (.var v) x₀ = true) : ∃ n y1, x₀ = (.Name n y1) ∧ (isVar vars v n) = true := by
  apply o_Name_elim h; intro n z1 h
  exact ⟨_, _, rfl, h⟩
theorem inv_trE_fld {f : Fld} {x₀ : PySem.Expr} (h : trE c vars (.fld f) x₀ = true) : ∃ b n y1, x₀ = (.Attribute b n y1) ∧ (isSelf b && f.nm == n) = true := by
  apply o_Attribute_elim h; intro b n z1 h
  exact ⟨_, _, _, rfl, h⟩
theorem inv_trE_cst {k : Nat} {x₀ : PySem.Expr} (h : trE c vars (.cst k) x₀ = true) : ∃ b n y1, x₀ = (.Attribute b n y1) ∧ (isSelf b && (match c.csts[k]? with | some x => x.1 == n | Option.none => false)) = true := by
  apply o_Attribute_elim h; intro b n z1 h
  exact ⟨_, _, _, rfl, h⟩
theorem inv_trE_mref {m : Nat} {x₀ : PySem.Expr} (h : trE c vars (.mref m) x₀ = true) : ∃ b n y1, x₀ = (.Attribute b n y1) ∧ (isSelf b && isMeth c m n) = true := by
  apply o_Attribute_elim h; intro b n z1 h
  exact ⟨_, _, _, rfl, h⟩
theorem inv_trE_mem {i : E} {x₀ : PySem.Expr} (h : trE c vars (.mem i) x₀ = true) : ∃ b n y1 e y2, x₀ = (.Subscript (.Attribute b n y1) e y2) ∧ (isSelf b && (n == ("memory" : Str)) && plainE e && trE c vars i e) = true := by
  apply o_Subscript_elim h; intro z1 e z2 h
  apply o_Attribute_elim h; intro b n z3 h
  exact ⟨_, _, _, _, _, rfl, h⟩
theorem inv_trE_tab {t : Nat} {i : E} {x₀ : PySem.Expr} (h : trE c vars (.tab t i) x₀ = true) : ∃ b n y1 e y2, x₀ = (.Subscript (.Attribute b n y1) e y2) ∧ (isSelf b && (match c.tabs[t]? with | some x => x.1 == n | Option.none => false) && plainE e && trE c vars i e) = true := by
  apply o_Subscript_elim h; intro z1 e z2 h
  apply o_Attribute_elim h; intro b n z3 h
  exact ⟨_, _, _, _, _, rfl, h⟩
theorem inv_trE_bin {op : BOp} {a : E} {b : E} {x₀ : PySem.Expr} (h : trE c vars (.bin op a b) x₀ = true) : ∃ l o r y1, x₀ = (.BinOp l o r y1) ∧ (o == op.op && trE c vars a l && trE c vars b r) = true := by
  apply o_BinOp_elim h; intro l o r z1 h
  exact ⟨_, _, _, _, rfl, h⟩
theorem inv_trE_inv {a : E} {x₀ : PySem.Expr} (h : trE c vars (.inv a) x₀ = true) : ∃ o e y1, x₀ = (.UnaryOp o e y1) ∧ (o == .Invert && trE c vars a e) = true := by
  apply o_UnaryOp_elim h; intro o e z1 h
  exact ⟨_, _, _, rfl, h⟩
theorem inv_trE_cmp {op : COp} {a : E} {b : E} {x₀ : PySem.Expr} (h : trE c vars (.cmp op a b) x₀ = true) : ∃ l o r y1, x₀ = (.Compare l (o :: []) (r :: []) y1) ∧ (o == op.op && plainE r && trE c vars a l && trE c vars b r) = true := by
  apply o_Compare_elim h; intro l z1 z2 z3 h
  apply o_cons_elim h; intro o z4 h
  apply o_nil_elim h; intro h
  apply o_cons_elim h; intro r z5 h
  apply o_nil_elim h; intro h
  exact ⟨_, _, _, _, rfl, h⟩
theorem inv_trE_isNone {v : Nat} {x₀ : PySem.Expr} (h : trE c vars (.isNone v) x₀ = true) : ∃ n y1 o y2 y3 y4, x₀ = (.Compare (.Name n y1) (o :: []) ((.Constant (.none) y2 y3) :: []) y4) ∧ (o == .Is && isVar vars v n) = true := by
  apply o_Compare_elim h; intro z1 z2 z3 z4 h
  apply o_Name_elim h; intro n z5 h
  apply o_cons_elim h; intro o z6 h
  apply o_nil_elim h; intro h
  apply o_cons_elim h; intro z7 z8 h
  apply o_Constant_elim h; intro z9 z10 z11 h
  apply o_none_elim h; intro h
  apply o_nil_elim h; intro h
  exact ⟨_, _, _, _, _, _, rfl, h⟩
theorem inv_trE_isNoneF {f : Fld} {x₀ : PySem.Expr} (h : trE c vars (.isNoneF f) x₀ = true) : ∃ b n y1 o y2 y3 y4, x₀ = (.Compare (.Attribute b n y1) (o :: []) ((.Constant (.none) y2 y3) :: []) y4) ∧ (o == .Is && isSelf b && f.nm == n) = true := by
  apply o_Compare_elim h; intro z1 z2 z3 z4 h
  apply o_Attribute_elim h; intro b n z5 h
  apply o_cons_elim h; intro o z6 h
  apply o_nil_elim h; intro h
  apply o_cons_elim h; intro z7 z8 h
  apply o_Constant_elim h; intro z9 z10 z11 h
  apply o_none_elim h; intro h
  apply o_nil_elim h; intro h
  exact ⟨_, _, _, _, _, _, _, rfl, h⟩
theorem inv_trE_txt  {x₀ : PySem.Expr} (h : trE c vars .txt x₀ = true) : ∃ y1 y2 y3, x₀ = (.Constant (.str y1) y2 y3) ∧ (true) = true := by
  apply o_Constant_elim h; intro z1 z2 z3 h
  apply o_str_elim h; intro z4 h
  exact ⟨_, _, _, rfl, h⟩
theorem inv_trE_bool {b : Bool} {x₀ : PySem.Expr} (h : trE c vars (.bool b) x₀ = true) : ∃ d y1 y2, x₀ = (.Constant (.bool d) y1 y2) ∧ (b == d) = true := by
  apply o_Constant_elim h; intro z1 z2 z3 h
  apply o_bool_elim h; intro d h
  exact ⟨_, _, _, rfl, h⟩
theorem inv_trE_call0 {m : Nat} {x₀ : PySem.Expr} (h : trE c vars (.call0 m) x₀ = true) : ∃ b n ap p, x₀ = (.Call (.Attribute b n ap) [] [] p) ∧ (isSelf b && isMeth c m n && ap.endLine == p.line) = true := by
  apply o_Call_elim h; intro z1 z2 z3 p h
  apply o_Attribute_elim h; intro b n ap h
  apply o_nil_elim h; intro h
  apply o_nil_elim h; intro h
  exact ⟨_, _, _, _, rfl, h⟩
theorem inv_trE_call1 {m : Nat} {a : E} {x₀ : PySem.Expr} (h : trE c vars (.call1 m a) x₀ = true) : ∃ b n ap e p, x₀ = (.Call (.Attribute b n ap) (e :: []) [] p) ∧ (isSelf b && isMeth c m n && ap.endLine == p.line && plainE e && trE c vars a e) = true := by
  apply o_Call_elim h; intro z1 z2 z3 p h
  apply o_Attribute_elim h; intro b n ap h
  apply o_cons_elim h; intro e z4 h
  apply o_nil_elim h; intro h
  apply o_nil_elim h; intro h
  exact ⟨_, _, _, _, _, rfl, h⟩
theorem inv_trE_call2 {m : Nat} {a : E} {d : E} {x₀ : PySem.Expr} (h : trE c vars (.call2 m a d) x₀ = true) : ∃ b n ap e f p, x₀ = (.Call (.Attribute b n ap) (e :: (f :: [])) [] p) ∧ (isSelf b && isMeth c m n && ap.endLine == p.line && plainE e && plainE f && trE c vars a e && trE c vars d f) = true := by
  apply o_Call_elim h; intro z1 z2 z3 p h
  apply o_Attribute_elim h; intro b n ap h
  apply o_cons_elim h; intro e z4 h
  apply o_cons_elim h; intro f z5 h
  apply o_nil_elim h; intro h
  apply o_nil_elim h; intro h
  exact ⟨_, _, _, _, _, _, rfl, h⟩
theorem inv_trE_callV {v : Nat} {x₀ : PySem.Expr} (h : trE c vars (.callV v) x₀ = true) : ∃ n y1 y2, x₀ = (.Call (.Name n y1) [] [] y2) ∧ (isVar vars v n) = true := by
  apply o_Call_elim h; intro z1 z2 z3 z4 h
  apply o_Name_elim h; intro n z5 h
  apply o_nil_elim h; intro h
  apply o_nil_elim h; intro h
  exact ⟨_, _, _, rfl, h⟩
theorem inv_trE_callT {i : E} {x₀ : PySem.Expr} (h : trE c vars (.callT i) x₀ = true) : ∃ b n y1 e y2 s y3 y4, x₀ = (.Call (.Subscript (.Attribute b n y1) e y2) ((.Name s y3) :: []) [] y4) ∧ (isSelf b && (n == c.instrN) && plainE e && trE c vars i e && (s == ("self" : Str))) = true := by
  apply o_Call_elim h; intro z1 z2 z3 z4 h
  apply o_Subscript_elim h; intro z5 e z6 h
  apply o_Attribute_elim h; intro b n z7 h
  apply o_cons_elim h; intro z8 z9 h
  apply o_Name_elim h; intro s z10 h
  apply o_nil_elim h; intro h
  apply o_nil_elim h; intro h
  exact ⟨_, _, _, _, _, _, _, _, rfl, h⟩
theorem inv_trS_expr {e : E} {x₀ : Stmt} (h : trS c vars (.expr e) x₀ = true) : ∃ x y1, x₀ = (.Expr x y1) ∧ (plainE x && trE c vars e x) = true := by
  apply o_Expr_elim h; intro x z1 h
  exact ⟨_, _, rfl, h⟩
theorem inv_trS_asgV {v : Nat} {e : E} {x₀ : Stmt} (h : trS c vars (.asgV v e) x₀ = true) : ∃ n y1 x y2, x₀ = (.Assign ((.Name n y1) :: []) x y2) ∧ (v != 0 && isVar vars v n && plainE x && trE c vars e x) = true := by
  apply o_Assign_elim h; intro z1 x z2 h
  apply o_cons_elim h; intro z3 z4 h
  apply o_Name_elim h; intro n z5 h
  apply o_nil_elim h; intro h
  exact ⟨_, _, _, _, rfl, h⟩
theorem inv_trS_asgF {f : Fld} {e : E} {x₀ : Stmt} (h : trS c vars (.asgF f e) x₀ = true) : ∃ b n y1 x y2, x₀ = (.Assign ((.Attribute b n y1) :: []) x y2) ∧ (isSelf b && f.nm == n && plainE x && trE c vars e x) = true := by
  apply o_Assign_elim h; intro z1 x z2 h
  apply o_cons_elim h; intro z3 z4 h
  apply o_Attribute_elim h; intro b n z5 h
  apply o_nil_elim h; intro h
  exact ⟨_, _, _, _, _, rfl, h⟩
theorem inv_trS_asgM {i : E} {e : E} {x₀ : Stmt} (h : trS c vars (.asgM i e) x₀ = true) : ∃ b n y1 x y2 y y3, x₀ = (.Assign ((.Subscript (.Attribute b n y1) x y2) :: []) y y3) ∧ (isSelf b && (n == ("memory" : Str)) && plainE x && plainE y && trE c vars i x && trE c vars e y) = true := by
  apply o_Assign_elim h; intro z1 y z2 h
  apply o_cons_elim h; intro z3 z4 h
  apply o_Subscript_elim h; intro z5 x z6 h
  apply o_Attribute_elim h; intro b n z7 h
  apply o_nil_elim h; intro h
  exact ⟨_, _, _, _, _, _, _, rfl, h⟩
theorem inv_trS_augV {v : Nat} {op : BOp} {e : E} {x₀ : Stmt} (h : trS c vars (.augV v op e) x₀ = true) : ∃ n y1 o x y2, x₀ = (.AugAssign (.Name n y1) o x y2) ∧ (v != 0 && isVar vars v n && o == op.op && trE c vars e x) = true := by
  apply o_AugAssign_elim h; intro z1 o x z2 h
  apply o_Name_elim h; intro n z3 h
  exact ⟨_, _, _, _, _, rfl, h⟩
theorem inv_trS_augF {f : Fld} {op : BOp} {e : E} {x₀ : Stmt} (h : trS c vars (.augF f op e) x₀ = true) : ∃ b n y1 o x y2, x₀ = (.AugAssign (.Attribute b n y1) o x y2) ∧ (isSelf b && f.nm == n && o == op.op && trE c vars e x) = true := by
  apply o_AugAssign_elim h; intro z1 o x z2 h
  apply o_Attribute_elim h; intro b n z3 h
  exact ⟨_, _, _, _, _, _, rfl, h⟩
theorem inv_trS_ite {t : E} {a : Ss} {b : Ss} {x₀ : Stmt} (h : trS c vars (.ite t a b) x₀ = true) : ∃ x l r y1, x₀ = (.If x l r y1) ∧ ((cmpE t || plainT x) && trE c vars t x && trSs c vars a l && trSs c vars b r) = true := by
  apply o_If_elim h; intro x l r z1 h
  exact ⟨_, _, _, _, rfl, h⟩
theorem inv_trS_ret {e : E} {x₀ : Stmt} (h : trS c vars (.ret e) x₀ = true) : ∃ x y1, x₀ = (.Return (some x) y1) ∧ (trE c vars e x) = true := by
  apply o_Return_elim h; intro z1 z2 h
  apply o_some_elim h; intro x h
  exact ⟨_, _, rfl, h⟩
theorem inv_trS_ret0  {x₀ : Stmt} (h : trS c vars .ret0 x₀ = true) : ∃ y1, x₀ = (.Return Option.none y1) ∧ (true) = true := by
  apply o_Return_elim h; intro z1 z2 h
  apply o_non_elim h; intro h
  exact ⟨_, rfl, h⟩
theorem inv_trS_pass  {x₀ : Stmt} (h : trS c vars .pass x₀ = true) : ∃ y1, x₀ = (.Pass y1) ∧ (true) = true := by
  apply o_Pass_elim h; intro z1 h
  exact ⟨_, rfl, h⟩
end
end Mine

end
section
open PySem PySem.W PyProof.Rows
set_option maxRecDepth 100000
set_option maxHeartbeats 1000000
namespace Mine
section
variable {prog : Program} {w : World} {A : Around} {E : Value → Shared → Prop} {s : Shared}
theorem set_plainL {l : Addr} {items : Array Value} {k : Int} {t : Tok} {v : Value} {Q : Unit → Shared → Prop} (hl : PlainL s.heap l items)
    (h0 : 0 ≤ k) (hfit : k < 2 ^ 63) (hn : k < items.size)
    (hQ : ∀ h', PlainL h' l (items.setIfInBounds k.toNat v) → Heap.SameBut l s.heap h' → Q () { s with heap := h' }) :
    wpAny (model prog w) A (setItem (.ref l) (.int k t) v) Q E s := by
  obtain ⟨o, n, ho, hc, hdn, hd⟩ := id hl
  have hT : s.TypeIs (.ref l) "list" := hl.isList.typeIs
  unfold setItem
  try with_reducible refine wpAny_holding ?_
  first | refine wpAny_bind (wpAny_pure ?_) | skip
  refine wpAny_bind (wpAny_sequenceKey hT (by decide) ?_)
  refine wpAny_bind (wpAny_callSpecial?_slot (name := Str.ofString "__setitem__") hT slot_list_setitem
    (wpAny_call_entry slot_list_setitem hT entry_list_setitem ?_ (args_list_setitem _ _ _)))
  show wpAny _ _ (Builtin.List.listSubscript? (.int k t) >>= _) _ _ s
  refine wpAny_bind (wpAny_listSubscript_int (fitsIndex_of h0 hfit) ?_)
  clear hfit
  obtain ⟨j, rfl⟩ := Int.eq_ofNat_of_zero_le h0
  have hj : j < items.size := by omega
  have hx' : items[j]? = some items[j] := Array.getElem?_eq_getElem hj
  show wpAny _ _ ((seqItemAt l j >>= fun r => pure (r.map (j, ·))) >>= _) _ _ s
  refine wpAny_bind (wpAny_bind (wpAny_seqItemAt ho hd (wpAny_pure ?_)))
  rw [hx']
  show wpAny _ _ (setSeqItemAt l j v >>= _) _ _ s
  obtain ⟨n', hd'⟩ := Obj.data_mapSeq hd (·.setIfInBounds j v)
  have hfin : PlainL (s.heap.update l (Obj.mapSeq (·.setIfInBounds j v))) l (items.setIfInBounds j v) := by
    refine ⟨_, n', Heap.get?_update_self _ ho (Obj.isFreed_of_seq hd'), (Obj.cls_mapSeq ..).trans hc, ?_, hd'⟩
    obtain ⟨c, d, dt, sl⟩ := o
    subst hd
    exact hdn
  refine wpAny_bind (wpAny_setSeqItemAt ho hd ?_)
  first
    | exact wpAny_bind (wpAny_pure (wpAny_pure ⟨.none, rfl, wpAny_pure (hQ _ hfin (Heap.SameBut.update ..))⟩))
    | exact wpAny_pure ⟨.none, rfl, wpAny_pure (hQ _ hfin (Heap.SameBut.update ..))⟩
end
end Mine

end
section
open PySem PySem.W PyProof.Rows
set_option maxRecDepth 100000
set_option maxHeartbeats 1000000
namespace Mine
section
variable {prog : Program} {w : World} {A : Around} {E : Value → Shared → Prop} {s : Shared}
noncomputable def slPut (items js : Array Value) (lo hi : Option Int) : Array Value :=
  items.extract 0 (sliceBounds lo hi none items.size).1.toNat ++ js ++ items.extract (max (sliceBounds lo hi none items.size).1 (sliceBounds lo hi none items.size).2.1).toNat items.size
theorem setSlice_plain {l sl b : Addr} {items js : Array Value} {vl vu : Value} {lo hi : Option Int} {Q : Unit → Shared → Prop} (hl : PlainL s.heap l items) (hb : s.heap.IsList b js) (hlb : l ≠ b)
    (hs : s.heap.IsSliceOf sl vl vu .none) (pl : IsPart vl lo) (pu : IsPart vu hi) (hsz : items.size + js.size ≤ sizeLine)
    (hQ : ∀ h', PlainL h' l (slPut items js lo hi) → Heap.SameBut l s.heap h' → Q () { s with heap := h' }) :
    wpAny (model prog w) A (setItem (.ref l) (.ref sl) (.ref b)) Q E s := by
  obtain ⟨o, n, ho, hc, hdn, hd⟩ := id hl
  obtain ⟨ob, hob, hcb, nb, hdb⟩ := id hb
  obtain ⟨os, hos, hcs, hds⟩ := id hs
  have hT : s.TypeIs (.ref l) "list" := hl.isList.typeIs
  have hTs : s.TypeIs (.ref sl) "slice" := ⟨os, hos, hcs⟩
  unfold setItem
  try with_reducible refine wpAny_holding ?_
  first | refine wpAny_bind (wpAny_pure ?_) | skip
  refine wpAny_bind (wpAny_sequenceKey hT (by decide) ?_)
  refine wpAny_bind (wpAny_callSpecial?_slot (name := Str.ofString "__setitem__") hT slot_list_setitem
    (wpAny_call_entry slot_list_setitem hT entry_list_setitem ?_ (args_list_setitem _ _ _)))
  show wpAny _ _ (Builtin.List.listSubscript? (.ref sl) >>= _) _ _ s
  refine wpAny_bind ?_
  unfold Builtin.List.listSubscript?
  refine wpAny_bind (wpAny_specialOf hTs slice_no_index ?_)
  simp only [Option.isNone_none, if_true]
  refine wpAny_pure ?_
  show wpAny _ _ (typeOf (.ref sl) >>= _) _ _ s
  refine wpAny_bind (wpAny_typeOf hTs ?_)
  rw [if_neg (by decide)]
  rw [listSliceParts_eq]
  have hstep : ¬ ((rawPart none == rawInt 0) = true) := Bool.false_ne_true
  refine wpAny_bind (wpAny_bind (wpAny_field hos hds (x := .none) rfl (wpAny_bind (wpAny_listPart .none ?_))))
  rw [if_neg hstep]
  refine wpAny_bind (wpAny_field hos hds (x := vl) rfl (wpAny_bind (wpAny_listPart pl ?_)))
  refine wpAny_bind (wpAny_field hos hds (x := vu) rfl (wpAny_bind (wpAny_listPart pu (wpAny_pure ?_))))
  have hsr : ¬ (Builtin.List.listSameRef (.ref l) (.ref b) = true) := fun q => hlb (by
    have q : (l == b) = true := q
    exact beq_iff_eq.mp q)
  have items_of : ∀ {a : Addr} {o : Obj} {its : Array Value} {n : Nat} {Q : Array Value → Shared → Prop} {E : Value → Shared → Prop} {A : Around}, s.heap.get? a = some o → o.data = .seq its n → Q its s → wpAny (model prog w) A (Builtin.List.listItems (.ref a)) Q E s := fun ho hd h => by
    unfold Builtin.List.listItems
    exact wpAny_bind (wpAny_seqItems ho hd (wpAny_pure h))
  rw [if_neg hsr]
  refine wpAny_bind (m := Builtin.List.listAllItems (.ref b) _) ?_
  unfold Builtin.List.listAllItems
  refine wpAny_bind (wpAny_typeOf hb.typeIs ?_)
  rw [if_pos (by decide)]
  refine items_of hob hdb ?_
  refine wpAny_bind (items_of ho hd ?_)
  refine wpAny_bind (wpAny_of_eq (sliceIndices_raw lo hi none items.size (by simp)) ?_)
  have h1 : ((sliceBounds lo hi none items.size).2.snd == 1) = true := rfl
  rw [if_pos h1]
  refine wpAny_bind (wpAny_rule ?_)
  have hlong : ¬ (Builtin.List.listTooLong (items.size + js.size) = true) := fun q => absurd (of_decide_eq_true q) (Nat.not_lt.mpr hsz)
  rw [if_neg hlong]
  obtain ⟨n', hd'⟩ := Obj.data_mapSeq hd (fun xs => xs.extract 0 (sliceBounds lo hi none items.size).1.toNat ++ js ++ xs.extract (max (sliceBounds lo hi none items.size).1 (sliceBounds lo hi none items.size).2.1).toNat xs.size)
  have hfin : PlainL (s.heap.update l (Obj.mapSeq fun xs => xs.extract 0 (sliceBounds lo hi none items.size).1.toNat ++ js ++ xs.extract (max (sliceBounds lo hi none items.size).1 (sliceBounds lo hi none items.size).2.1).toNat xs.size)) l (slPut items js lo hi) := by
    refine ⟨_, n', Heap.get?_update_self _ ho (Obj.isFreed_of_seq hd'), (Obj.cls_mapSeq ..).trans hc, ?_, hd'⟩
    obtain ⟨c, d, dt, sl⟩ := o
    subst hd
    exact hdn
  have hsz2 : (items.extract 0 (sliceBounds lo hi none items.size).1.toNat ++ js ++ items.extract (max (sliceBounds lo hi none items.size).1 (sliceBounds lo hi none items.size).2.1).toNat items.size).size ≤ sizeLine + 1 := by
    simp only [Array.size_append, Array.size_extract]
    have : (sliceBounds lo hi none items.size).1.toNat ≤ (max (sliceBounds lo hi none items.size).1 (sliceBounds lo hi none items.size).2.1).toNat := by omega
    omega
  refine wpAny_bind (wpAny_updateSeq ho hd ?_ (by omega) hsz2)
  refine wpAny_bind (wpAny_letGo ?_)
  first
    | exact wpAny_bind (wpAny_pure (wpAny_pure ⟨.none, rfl, wpAny_pure (hQ _ hfin (Heap.SameBut.update ..))⟩))
    | exact wpAny_pure ⟨.none, rfl, wpAny_pure (hQ _ hfin (Heap.SameBut.update ..))⟩
theorem slPut_list {items js : Array Value} {lo hi : Option Int} : (slPut items js lo hi).toList = items.toList.take (lo.elim 0 (clipAt items.size)) ++ js.toList ++ items.toList.drop (max (lo.elim 0 (clipAt items.size)) (hi.elim items.size (clipAt items.size))) := by
  have hb : sliceBounds lo hi none items.size = (((lo.elim 0 (clipAt items.size) : Nat) : Int), ((hi.elim items.size (clipAt items.size) : Nat) : Int), 1) := by
    cases lo <;> cases hi <;> simp [sliceBounds, clipAt_cast]
  unfold slPut
  rw [hb]
  simp only [Array.toList_append, Array.toList_extract, Int.toNat_natCast]
  have : (max ((lo.elim 0 (clipAt items.size) : Nat) : Int) ((hi.elim items.size (clipAt items.size) : Nat) : Int)).toNat = max (lo.elim 0 (clipAt items.size)) (hi.elim items.size (clipAt items.size)) := by omega
  rw [this]
  congr 1
  exact List.take_of_length_le (by simp)
end
end Mine

end
section
open PySem PySem.W PyProof.Rows
set_option maxRecDepth 100000
namespace Mine

structure Cx where
  prog : Program
  w : World
  c : Cls
  h₀ : Heap
  K : Frag
  C : Addr
  I : Addr
  D : Addr
  L : Addr
  fnA : Nat → Addr
  tabA : Nat → Addr
  insA : Addr
noncomputable def lamE : E := .bin .add (.bin .and (.var 1) (.fld .ahm)) (.bin .and (.bin .add (.var 1) (.int 1)) (.fld .bm))
noncomputable def tabP : Addr := 73
noncomputable def lamPos : Pos := ⟨80, 15, 80, 74⟩
noncomputable def lamQual : Str := "MPU.WrapAt.<locals>.<lambda>"
structure WrapM (x : Cx) (md : MethD) (fd : FuncData) (b : List Stmt) (mB kW : Nat) (mdB : MethD) (c : Addr) (lparams : Arguments) (lbody : PySem.Expr) (lscope : Scope) : Prop where
  np : md.np = 2
  vars : md.vars = [("self" : Str), ("addr" : Str)]
  body : md.body = .cons (.ret (.bin .add (.call1 mB (.var 1)) (.bin .shl (.call1 mB lamE) (.cst kW)))) .nil
  hB : x.c.P[mB]? = some mdB
  code : ∃ p1 p2 e1 bp ap q1 q2 q3 q4 e2 q5 q6 q7, b = [.Assign [.Name "wrap" p1] (.Lambda lparams lbody lscope lamPos) p2, .Return (some (.BinOp e1 .Add (.BinOp (.Call (.Attribute (.Name ("self" : Str) bp) mdB.nm ap) [.Call (.Name "wrap" q1) [.Name "addr" q2] [] q3] [] q4) .LShift e2 q5) q6)) q7] ∧
    ap.endLine = q4.line ∧ trE x.c ["self", "addr"] (.call1 mB (.var 1)) e1 = true ∧ trE x.c ["self", "addr"] (.cst kW) e2 = true
  lam : trE x.c ["self", "x"] lamE lbody = true
  sc : fd.scope.names.lookup ("self" : Str) = some .cell ∧ fd.scope.names.lookup ("addr" : Str) = some .local ∧ fd.scope.names.lookup ("wrap" : Str) = some .local
  cel : ∀ L, ((cellsFrom L fd.scope.names []).lookup ("self" : Str)).isSome = true
  lk : lscope.kind = .function
  lco : lscope.isCoroutine = false
  lgen : lscope.isGenerator = false
  lnc : ∀ z ∈ lscope.names, z.2 ≠ .cell
  lx : lscope.names.lookup ("x" : Str) = some .local
  lself : lscope.names.lookup ("self" : Str) = some .free
  lclo : ∀ (env : Env) (c : Addr), env.cells.lookup ("self" : Str) = some c → closureFor lscope env = pure [(("self" : Str), c)]
  ldef : ∀ env, defaultsOf lparams env = ([], [])
  lbind : ∀ (pm cdv ct y : Value) (cl : List (Str × Addr)), bindArgs (kla_fn "<lambda>" lamQual lparams lbody lscope cl pm cdv ct) ⟨[y], []⟩ = pure [(("x" : Str), y)]
  bind : ∀ vals : List Value, vals.length = 2 → bindArgs fd ⟨vals, []⟩ = pure ([("self" : Str), ("addr" : Str)].zip vals)
  hcode : fd.code = .ref c
  head : ∀ h : Heap, x.K.In h → CodeHd h c tabP
  glob : fd.globals = mainGlobals
  clo : fd.closure = []
  qual : fd.qualname ++ ".<locals>." ++ "<lambda>" = lamQual
  main : ∃ mg, x.h₀.Ns mainGlobals mg ∧ x.h₀.BuiltinsAt mg tabP
  ne : mainGlobals ≠ tabP
  nP : x.h₀.get? tabP = none
structure PlainM (x : Cx) (md : MethD) (fd : FuncData) (b : List Stmt) : Prop where
  tr : trSs x.c md.vars md.body b = true
  nc : ∀ y ∈ fd.scope.names, y.2 ≠ .cell
  loc : ∀ v ∈ md.vars, fd.scope.names.lookup v = some .local
  clo : fd.closure = []
  binds : ∀ (s : Shared) (vals : List Value), x.K.In s.heap → vals.length = md.np → BindsTo s fd ⟨vals, []⟩ ((md.vars.take md.np).zip vals)
structure MethOk (x : Cx) (m : Nat) (md : MethD) : Prop where
  find : findIn x.K (.ref x.C) md.nm = some (some (.ref (x.fnA m)))
  notF : ∀ f : Fld, md.nm ≠ f.nm
  cop : copiedNames.contains md.nm = false
  nodup : md.vars.Nodup
  nodbg : ∀ v ∈ md.vars, (v == ("__debug__" : Str)) = false
  npLe : md.np ≤ md.vars.length
  self : md.vars[0]? = some ("self" : Str)
  fd : ∃ fd b, x.K.lookup (x.fnA m) = some ⟨.type "function", none, .func fd, #[]⟩ ∧ fd.body = .stmts b ∧ (PlainM x md fd b ∨ ∃ mB kW mdB c lp lb ls, WrapM x md fd b mB kW mdB c lp lb ls) ∧ fd.scope.kind = .function ∧
    fd.scope.isGenerator = false ∧ fd.scope.isCoroutine = false ∧ codeIn x.K fd.code fd.qualname = true

structure Ok (x : Cx) : Prop where
  X : x.K.In x.h₀
  lim : x.h₀.NoLimit
  nD : x.h₀.get? x.D = none
  nL : x.h₀.get? x.L = none
  DL : x.D ≠ x.L
  ga : findIn x.K (.ref x.C) "__getattribute__" = some (some (.builtin "object.__getattribute__"))
  gg : findIn x.K (.ref x.C) "__getattr__" = some none
  sa : findIn x.K (.ref x.C) "__setattr__" = some (some (.builtin "object.__setattr__"))
  hd : hasDictIn x.K x.C = true
  po : plainOver x.K x.C = true
  fld : ∀ f : Fld, findIn x.K (.ref x.C) f.nm = some none
  cst : ∀ (k : Nat) (n : Str) (v : Int), x.c.csts[k]? = some (n, v) → (∃ t, findIn x.K (.ref x.C) n = some (some (.int v t))) ∧ copiedNames.contains n = false ∧ ∀ f : Fld, n ≠ f.nm
  tab : ∀ (k : Nat) (n : Str) (l : List Int), x.c.tabs[k]? = some (n, l) → findIn x.K (.ref x.C) n = some (some (.ref (x.tabA k))) ∧ copiedNames.contains n = false ∧ (∀ f : Fld, n ≠ f.nm) ∧
    ∃ vs, x.K.lookup (x.tabA k) = some { cls := .type "list", data := .seq vs.toArray } ∧ IntsAre vs l
  ins : findIn x.K (.ref x.C) x.c.instrN = some (some (.ref x.insA)) ∧ copiedNames.contains x.c.instrN = false ∧ (∀ f : Fld, x.c.instrN ≠ f.nm) ∧
    x.K.lookup x.insA = some { cls := .type "list", data := .seq (x.c.instr.map fun m => Value.ref (x.fnA m)).toArray }
  meth : ∀ (m : Nat) (md : MethD), x.c.P[m]? = some md → MethOk x m md

noncomputable def Rp (x : Cx) (h : Heap) : V → Value → Prop
  | .int i, v => ∃ t, v = .int i t
  | .bool b, v => v = .bool b
  | .none, v => v = .none
  | .self, v => v = .ref x.I
  | .meth m, v => ∃ a, v = .ref a ∧ h.get? a = some (methodObj (.ref (x.fnA m)) (.ref x.I))
  | .txt, v => ∃ s t, v = .str s t
  | .memr, v => v = .ref x.L
  | .unset, _ => False
noncomputable def FldR (x : Cx) (h : Heap) : V → Option Value → Prop
  | .unset, o => o = none
  | v, o => ∃ y, o = some y ∧ Rp x h v y
theorem FldR.of {x : Cx} {h : Heap} {v : V} {o : Option Value} (hu : v ≠ .unset) : FldR x h v o ↔ ∃ y, o = some y ∧ Rp x h v y := by
  cases v <;> first | exact Iff.rfl | exact absurd rfl hu
theorem FldR.map {x : Cx} {h h' : Heap} {v : V} {o : Option Value} (r : FldR x h v o) (k : ∀ y, Rp x h v y → Rp x h' v y) : FldR x h' v o := by
  by_cases hu : v = .unset
  · subst hu; exact r
  · obtain ⟨y, e, q⟩ := (FldR.of hu).mp r
    exact (FldR.of hu).mpr ⟨y, e, k y q⟩
noncomputable def TabInv (h : Heap) : Prop := ∃ ps : Array Value, h.get? tabP = some (tabObj ps) ∧ TriplesOk ps.toList ∧ (codeAmong lamPos ps.toList = none ∨ ∃ c', codeAmong lamPos ps.toList = some (.ref c') ∧ h.CodeRec (.ref c') lamQual)
theorem TabInv.keep {h h' : Heap} (t : TabInv h) (k : ∀ b o vs, h.get? b = some o → o.data = .fields vs → h'.get? b = some o) : TabInv h' := by
  obtain ⟨ps, e, ok, q⟩ := t
  refine ⟨ps, k _ _ _ e rfl, ok, ?_⟩
  rcases q with q | ⟨c', q, c, oc, vs, tq, e1, e2, e3, e4⟩
  · exact .inl q
  · exact .inr ⟨c', q, c, oc, vs, tq, e1, k _ _ _ e2 e3, e3, e4⟩
structure Mr (x : Cx) (σ : M) (h : Heap) : Prop where
  stays : ∀ b o, x.h₀.get? b = some o → h.get? b = some o
  inst : h.get? x.I = some (instObj x.C x.D)
  ns : ∃ m, h.Ns1 x.D m ∧ (∀ f : Fld, FldR x h (σ.get f) (m f.nm)) ∧ ∀ n, (∀ f : Fld, n ≠ f.nm) → m n = none
  mem : ∃ items : Array Value, PlainL h x.L items ∧ IntsAre items.toList σ.mem
  sz : σ.mem.length < 2 ^ 62
  tab : TabInv h
structure Lr (x : Cx) (env : Env) (vars : List Str) (ρ : Loc) (h : Heap) : Prop where
  ns : ∃ m, h.Ns env.locals m ∧ ∀ (i : Nat) (n : Str) (v : V), vars[i]? = some n → ρ.at i = some v → (i = 0 → env.cells.lookup ("self" : Str) = none) → ∃ y, m n = some y ∧ Rp x h v y
  cell : ∀ c, env.cells.lookup ("self" : Str) = some c → h.IsCell c (some (.ref x.I))
  nD : env.locals ≠ x.D
  nL : env.locals ≠ x.L
  nI : env.locals ≠ x.I
  nB : x.h₀.get? env.locals = none
  len : ρ.length = vars.length
  self : ρ.at 0 = some .self
structure EnvOk (env : Env) (vars : List Str) : Prop where
  kind : env.scope.kind = .function
  loc : ∀ (i : Nat) (n : Str), vars[i]? = some n → (i = 0 → env.cells.lookup ("self" : Str) = none) → env.kindOf n = some .local
  selfC : ∀ c, env.cells.lookup ("self" : Str) = some c → env.kindOf ("self" : Str) = some .cell ∨ env.kindOf ("self" : Str) = some .free
  nodup : vars.Nodup
  nodbg : ∀ v ∈ vars, (v == ("__debug__" : Str)) = false
  self : vars[0]? = some ("self" : Str)
noncomputable def tabb (o : Obj) : Bool := match o.cls, o.data with
  | .none, .fields _ => true
  | _, _ => false
theorem tabb_d {o : Obj} (h : ∀ ps, o.data ≠ .fields ps) : tabb o = false := by
  unfold tabb
  split
  · rename_i ps _ e; exact absurd e (h ps)
  · rfl
theorem tabb_c {o : Obj} (h : o.cls ≠ .none) : tabb o = false := by
  unfold tabb
  split
  · rename_i e _; exact absurd e h
  · rfl
noncomputable def Away (ds : List Addr) (h h' : Heap) : Prop := ∀ b o, h.get? b = some o → tabb o = false → b ∉ ds → h'.get? b = some o
noncomputable def AwayF (ds : List Addr) (h h' : Heap) : Prop := ∀ b o, h.get? b = some o → b ∉ ds → h'.get? b = some o
theorem Away.rfl' {ds : List Addr} {h : Heap} : Away ds h h := fun _ _ e _ _ => e
theorem Away.trans {ds : List Addr} {h₁ h₂ h₃ : Heap} (a : Away ds h₁ h₂) (b : Away ds h₂ h₃) : Away ds h₁ h₃ := fun c o e t n => b c o (a c o e t n) t n
theorem Away.mono {ds es : List Addr} {h h' : Heap} (a : Away ds h h') (s : ∀ b, b ∈ ds → b ∈ es) : Away es h h' := fun c o e t n => a c o e t fun q => n (s c q)
noncomputable def TabG (b : Addr) (o o' : Obj) : Prop := tabb o = true → ∃ vs more, o.data = .fields vs ∧ o' = { o with data := .fields (vs ++ more) } ∧ (b = tabP ∨ more = #[])
theorem tabb_f {o : Obj} (h : tabb o = true) : ∃ vs, o.data = .fields vs := by
  unfold tabb at h
  split at h
  · rename_i vs _ e; exact ⟨vs, e⟩
  · injection h
theorem TabG.same {b : Addr} {o : Obj} : TabG b o o := fun h => by
  obtain ⟨vs, e⟩ := tabb_f h
  refine ⟨vs, #[], e, ?_, .inr rfl⟩
  rw [Array.append_empty, ← e]
theorem TabG.no {b : Addr} {o o' : Obj} (h : tabb o = false) : TabG b o o' := fun q => by rw [h] at q; injection q
theorem TabG.trans {b : Addr} {o₁ o₂ o₃ : Obj} (x : TabG b o₁ o₂) (y : TabG b o₂ o₃) : TabG b o₁ o₃ := fun h => by
  obtain ⟨vs, m, e, rfl, p⟩ := x h
  have h2 : tabb { o₁ with data := .fields (vs ++ m) } = true := by
    unfold tabb at h ⊢
    cases c : o₁.cls with
    | none => rfl
    | _ => rw [c, e] at h; exact h
  obtain ⟨vs', m', e', rfl, p'⟩ := y h2
  injection e' with e'
  subst e'
  refine ⟨vs, m ++ m', e, by rw [Array.append_assoc], ?_⟩
  rcases p with p | p
  · exact .inl p
  · rcases p' with p' | p'
    · exact .inl p'
    · subst p p'; exact .inr rfl
noncomputable def Live (h h' : Heap) : Prop := ∀ b o, h.get? b = some o → ∃ o', h'.get? b = some o' ∧ TabG b o o'
noncomputable def Kp (ds : List Addr) (s s' : Shared) : Prop := ∃ h' t', s' = { s with heap := h', toks := t' } ∧ Away ds s.heap h' ∧ Live s.heap h'
theorem Kp.refl {ds : List Addr} {s : Shared} : Kp ds s s := ⟨s.heap, s.toks, rfl, .rfl', fun _ o e => ⟨o, e, .same⟩⟩
theorem Kp.trans {ds : List Addr} {s₁ s₂ s₃ : Shared} (a : Kp ds s₁ s₂) (b : Kp ds s₂ s₃) : Kp ds s₁ s₃ := by
  obtain ⟨h, t, rfl, a, la⟩ := a
  obtain ⟨h', t', rfl, b, lb⟩ := b
  exact ⟨h', t', rfl, a.trans b, fun c o e => by obtain ⟨o', e', x⟩ := la c o e; obtain ⟨o2, e2, y⟩ := lb c o' e'; exact ⟨o2, e2, x.trans y⟩⟩
theorem Kp.away {ds : List Addr} {s s' : Shared} (k : Kp ds s s') : Away ds s.heap s'.heap := by obtain ⟨_, _, rfl, a, _⟩ := k; exact a
theorem Kp.mono {ds es : List Addr} {s s' : Shared} (k : Kp ds s s') (h : ∀ b, b ∈ ds → b ∈ es) : Kp es s s' := by obtain ⟨h', t', e, a, l⟩ := k; exact ⟨h', t', e, a.mono h, l⟩
theorem Kp.tok {ds : List Addr} {s : Shared} {t : Nat} : Kp ds s { s with toks := t } := ⟨s.heap, t, rfl, .rfl', fun _ o e => ⟨o, e, .same⟩⟩

section
variable {x : Cx} {σ : M} {h h' : Heap} {env : Env} {vars : List Str} {ρ : Loc}
theorem ns_kind {a : Addr} {m : Str → Option Value} (n : h.Ns a m) : ∃ o es ep, h.get? a = some o ∧ o.data = .dict es ep := by obtain ⟨o, es, ep, e, d, _⟩ := n; exact ⟨o, es, ep, e, d⟩
theorem Mr.ne_meth (R : Mr x σ h) {a : Addr} {f s : Value} (e : h.get? a = some (methodObj f s)) : a ∉ [x.D, x.L] := by
  intro q
  obtain ⟨m, n, _⟩ := R.ns
  obtain ⟨o, es, ep, e', d⟩ := ns_kind n.ns
  obtain ⟨its, ⟨o2, k, e2, _, _, d2⟩, _⟩ := R.mem
  rcases List.mem_cons.mp q with q | q
  · subst q; rw [e] at e'; (injection e' with e'; subst e'); injection d
  · have := List.mem_singleton.mp q; subst this; rw [e] at e2; (injection e2 with e2; subst e2); injection d2
theorem Rp.keeps {v : V} {y : Value} (R : Mr x σ h) (r : Rp x h v y) (k : Away [x.D, x.L] h h') : Rp x h' v y := by
  cases v <;> try exact r
  obtain ⟨a, e, g⟩ := r
  exact ⟨a, e, k a _ g rfl (R.ne_meth g)⟩
theorem ns_keeps {a : Addr} {m : Str → Option Value} {ds : List Addr} (n : h.Ns a m) (k : Away ds h h') (q : a ∉ ds) : h'.Ns a m := by
  obtain ⟨o, es, ep, e, r⟩ := n
  exact ⟨o, es, ep, k a o e (tabb_d fun ps z => by rw [r.1] at z; injection z) q, r⟩
theorem Lr.keeps (R : Mr x σ h) (l : Lr x env vars ρ h) (k : Away [x.D, x.L] h h') : Lr x env vars ρ h' := by
  obtain ⟨⟨m, n, r⟩, cl, nD, nL, nI, nB, ln, sf⟩ := l
  refine ⟨⟨m, ns_keeps n k (by simp [nD, nL]), fun i nm v hi hv hz => ?_⟩, fun c hc => ?_, nD, nL, nI, nB, ln, sf⟩
  rotate_left
  · obtain ⟨o, e, d⟩ := cl c hc
    refine ⟨o, k c o e (tabb_d fun ps z => by rw [d] at z; injection z) fun q => ?_, d⟩
    obtain ⟨mm, n2, _⟩ := R.ns
    obtain ⟨o2, es, ep, e2, d2⟩ := ns_kind n2.ns
    obtain ⟨its, ⟨o3, k3, e3, _, _, d3⟩, _⟩ := R.mem
    rcases List.mem_cons.mp q with q | q
    · subst q; rw [e] at e2; (injection e2 with e2; subst e2); rw [d] at d2; injection d2
    · have := List.mem_singleton.mp q; subst this; rw [e] at e3; (injection e3 with e3; subst e3); rw [d] at d3; injection d3
  obtain ⟨y, e, q⟩ := r i nm v hi hv hz
  exact ⟨y, e, q.keeps R k⟩
theorem lookIn_ns {a : Addr} {m : Str → Option Value} (n : h.Ns a m) : ∃ o, h.get? a = some o ∧ ∀ name, lookIn name o = some (m name) := by
  obtain ⟨o, es, ep, e, d, sk, f⟩ := n
  refine ⟨o, e, fun name => ?_⟩
  unfold lookIn
  rw [d]
  dsimp only
  have q := f name
  unfold nsFind findBy at q
  rw [← Array.find?_toList] at q
  cases g : es.toList.find? (·.key.isStr name) with
  | some en => rw [g] at q; rw [← q]; rfl
  | none =>
    rw [g] at q
    rw [← q]
    have : es.toList.any (·.refKey) = false := by
      rw [List.any_eq_false]
      intro en hen
      obtain ⟨nm, t, ek⟩ := sk en (Array.mem_toList_iff.mp hen)
      simp [DictEntry.refKey, ek]
    dsimp only
    rw [this]; rfl
theorem Mr.instAt (R : Mr x σ h) : ∃ od, InstAt h x.I (instObj x.C x.D) x.C (some od) ∧ (∀ f : Fld, σ.get f ≠ .unset → ∃ v, lookIn f.nm od = some (some v) ∧ Rp x h (σ.get f) v) ∧ ∀ n, (∀ f : Fld, n ≠ f.nm) → lookIn n od = some none := by
  obtain ⟨m, n, r, z⟩ := R.ns
  obtain ⟨od, e, l⟩ := lookIn_ns n.ns
  refine ⟨od, ⟨R.inst, rfl, rfl, e⟩, fun f hu => ?_, fun n hn => ?_⟩
  · obtain ⟨v, q, rv⟩ := (FldR.of hu).mp (r f)
    exact ⟨v, by rw [l, q], rv⟩
  · rw [l, z n hn]
theorem Rp.handed {v : V} {y : Value} (r : Rp x h v y) : handedIn y = true := by
  cases v <;> first | exact r.elim | (obtain ⟨t, rfl⟩ := r; rfl) | (obtain rfl := r; rfl) | (obtain ⟨a, rfl, _⟩ := r; rfl) | (obtain ⟨s, t, rfl⟩ := r; rfl)
end

section
variable {x : Cx} (O : Ok x) {A : Around} {E' : Value → Shared → Prop} {s : Shared} {σ : M}
include O
theorem X' (R : Mr x σ s.heap) : x.K.In s.heap := fun b o e => R.stays _ _ (O.X b o e)
theorem get_fld (R : Mr x σ s.heap) (f : Fld) (hu : σ.get f ≠ .unset) {ex : Bool} {Q : Value → Shared → Prop} (h : ∀ y, Rp x s.heap (σ.get f) y → Q y { s with toks := s.toks + 1 }) :
    wpAny (model x.prog x.w) A (getAttr (.ref x.I) f.nm ex) Q E' s := by
  obtain ⟨od, Ia, fl, _⟩ := R.instAt
  obtain ⟨v, lv, rv⟩ := fl f hu
  exact get_value (X' O R) Ia O.ga (findObj_own O.hd (O.fld f) rfl lv) rv.handed (h v rv)
theorem get_cst (R : Mr x σ s.heap) {k : Nat} {n : Str} {v : Int} (hk : x.c.csts[k]? = some (n, v)) {ex : Bool} {Q : Value → Shared → Prop} (h : ∀ t, Q (.int v t) { s with toks := s.toks + 1 }) :
    wpAny (model x.prog x.w) A (getAttr (.ref x.I) n ex) Q E' s := by
  obtain ⟨od, Ia, _, no⟩ := R.instAt
  obtain ⟨⟨t, ft⟩, cp, nf⟩ := O.cst k n v hk
  refine get_value (v := .int v t) (X' O R) Ia O.ga (findObj_cls O.hd ft ?_ rfl cp (no n nf)) rfl (h t)
  show fastLookup "int" "__get__" = some none
  decide +kernel
theorem get_lst (R : Mr x σ s.heap) {n : Str} {a : Addr} {vs : List Value} (ha : findIn x.K (.ref x.C) n = some (some (.ref a))) (hk : x.K.lookup a = some { cls := .type "list", data := .seq vs.toArray }) (cp : copiedNames.contains n = false) (nf : ∀ f : Fld, n ≠ f.nm)
    {ex : Bool} {Q : Value → Shared → Prop} (h : Q (.ref a) { s with toks := s.toks + 1 }) : wpAny (model x.prog x.w) A (getAttr (.ref x.I) n ex) Q E' s := by
  obtain ⟨od, Ia, _, no⟩ := R.instAt
  refine get_value (v := .ref a) (X' O R) Ia O.ga (findObj_cls O.hd ha ?_ rfl cp (no n nf)) rfl h
  show ((x.K.lookup a).map (·.cls)).bind (fun ty => findIn x.K ty "__get__") = some none
  rw [hk]
  show fastLookup "list" "__get__" = some none
  decide +kernel
omit O in
theorem fn_special {f : Addr} {fd : FuncData} (hk : x.K.lookup f = some ⟨.type "function", none, .func fd, #[]⟩) : typeIn x.K (.ref f) = some (.type "function") ∧ specialIn x.K (.ref f) "__get__" = some (some (.builtin "function.__get__")) ∧ takesIn x.K (.ref f) = some false := by
  have t : typeIn x.K (.ref f) = some (.type "function") := by show (x.K.lookup f).map (·.cls) = _; rw [hk]; rfl
  have sp : ∀ n, specialIn x.K (.ref f) n = fastLookup "function" n := fun n => by unfold specialIn; rw [t]; rfl
  refine ⟨t, ?_, ?_⟩
  · rw [sp]; decide +kernel
  · unfold takesIn
    rw [sp, sp]
    decide +kernel
theorem get_meth (R : Mr x σ s.heap) {m : Nat} {md : MethD} (hm : x.c.P[m]? = some md) {ex : Bool} {Q : Value → Shared → Prop}
    (h : Q (.ref s.heap.objs.size) { s with heap := s.heap.push (methodObj (.ref (x.fnA m)) (.ref x.I)), toks := s.toks + 1 }) : wpAny (model x.prog x.w) A (getAttr (.ref x.I) md.nm ex) Q E' s := by
  obtain ⟨od, Ia, _, no⟩ := R.instAt
  have mo := O.meth m md hm
  obtain ⟨fd, b, hk, _⟩ := mo.fd
  obtain ⟨t, g, tk⟩ := fn_special hk
  refine get_bind (X' O R) Ia O.ga (findObj_fn O.hd mo.find g tk mo.cop (no _ mo.notF)) O.gg ?_
  exact wpAny_call (fn_get (s := { s with toks := s.toks + 1 }) (X' O R) t (handed_on rfl h))
theorem meth_of (R : Mr x σ s.heap) {m : Nat} {md : MethD} (hm : x.c.P[m]? = some md) {pl : Sem Bool} {Q : Value × List Value → Shared → Prop} (h : Q (.ref (x.fnA m), [.ref x.I]) s) :
    wpAny (model x.prog x.w) A (getMethod (.ref x.I) md.nm pl) Q E' s := by
  obtain ⟨od, Ia, _, no⟩ := R.instAt
  have mo := O.meth m md hm
  obtain ⟨fd, b, hk, _⟩ := mo.fd
  obtain ⟨t, g, tk⟩ := fn_special hk
  exact method_fn (X' O R) Ia O.ga O.gg mo.find t (by show (lookIn md.nm od).map (·.isSome) = some false; rw [no _ mo.notF]; rfl) h
omit O in
theorem fields_within {m : Str → Option Value} (z : ∀ n, (∀ f : Fld, n ≠ f.nm) → m n = none) : Within m (Fld.all.map Fld.nm) := fun y hy => by
  apply Classical.byContradiction
  intro q
  exact hy (z y fun f e => q (List.mem_map.mpr ⟨f, Fld.mem_all f, e.symm⟩))
theorem set_fld (R : Mr x σ s.heap) {f : Fld} {v : V} {y : Value} {σ' : M} (hs : σ.set f v = some σ') (hnu : v ≠ .unset) (hv : ∀ h, Rp x h v y) {Q : Unit → Shared → Prop}
    (h : ∀ s', Mr x σ' s'.heap → Kp [x.D, x.L] s s' → Away [x.D] s.heap s'.heap → Q () s') : wpAny (model x.prog x.w) A (setAttr (.ref x.I) f.nm y) Q E' s := by
  obtain ⟨od, Ia, fl, _⟩ := R.instAt
  obtain ⟨m, n, r, z⟩ := R.ns
  refine set_plain (X' O R) Ia O.sa ?_
  refine osa_open (X' O R) (s := { s with toks := s.toks + 1 }) Ia O.po (r := none) (by unfold takerIn; rw [O.fld f]; rfl) fun b => ?_
  obtain ⟨cd, hc, hd'⟩ := any_some O.hd
  refine wpAny_bind (wpAny_pure (wpAny_bind (wpAny_bind (wpAny_loadPart R.inst (wpAny_bind (Looks.here (s := { s with toks := s.toks + 1 }) (looks_clsIn (X' O R) hc) ?_))))))
  rw [hd']
  refine wpAny_pure (a := some x.D) (wpAny_bind (wpAny_pure (wpAny_bind ?_)))
  refine wpAny_nsSet1 (s := { s with toks := s.toks + 1 }) n fun h' n' sb => ?_
  have ok : ∀ k, k ≠ x.D → h'.get? k = s.heap.get? k := fun k q => sb.2 k q
  have nm : ∀ g : Fld, (if g.nm = f.nm then some y else m g.nm) = if g = f then some y else m g.nm := fun g => by
    by_cases e : g = f
    · subst e; simp
    · rw [if_neg e, if_neg fun q => e (Fld.nm_inj _ _ q)]
  have z' : ∀ n, (∀ f : Fld, n ≠ f.nm) → (if n = f.nm then some y else m n) = none := fun n hn => by rw [if_neg (hn f)]; exact z n hn
  obtain ⟨o', es', ep', e', d', c'⟩ := n'.count (fields_within z')
  obtain ⟨gm, gs⟩ := M.get_set hs
  have aw : Away [x.D] s.heap h' := fun b o e _ q => by rw [ok b (by simpa using q)]; exact e
  have R' : Mr x σ' h' := by
    refine ⟨fun b o e => ?_, ?_, ⟨_, n', fun g => ?_, z'⟩, ?_, by rw [gm]; exact R.sz, R.tab.keep fun b o vs e d => by
      rw [ok b fun q => ?_]; exact e
      obtain ⟨o2, es2, ep2, e2, d2⟩ := ns_kind n.ns
      subst q
      have e2 : s.heap.get? x.D = some o2 := e2
      rw [e2] at e; (injection e with e; subst e); rw [d] at d2; injection d2⟩
    · rw [ok b fun q => by rw [q, O.nD] at e; cases e]; exact R.stays b o e
    · rw [ok x.I fun q => ?_]; exact R.inst
      obtain ⟨o, es, ep, e, d⟩ := ns_kind n.ns
      rw [← q, R.inst] at e; (injection e with e; subst e); injection d
    · rw [nm, gs g]
      by_cases e : g = f
      · rw [if_pos e, if_pos e]; exact (FldR.of hnu).mpr ⟨y, rfl, hv _⟩
      · rw [if_neg e, if_neg e]
        exact (r g).map fun u ru => ru.keeps R (aw.mono fun b hb => by simp at hb; simp [hb])
    · rw [gm]
      obtain ⟨its, ⟨o, k, e, cl, dn, d⟩, ia⟩ := R.mem
      exact ⟨its, ⟨o, k, by rw [ok x.L (Ne.symm O.DL)]; exact e, cl, dn, d⟩, ia⟩
  refine wpAny_bind (wpAny_lookBehind e' (by rw [d']; exact pastItsLine_dict (Nat.le_trans c' (by rw [sizeLine_eq]; decide))) ?_)
  exact wpAny_pure (h _ R' ⟨h', _, rfl, aw.mono (fun b hb => by simp at hb; simp [hb]), fun b o e => by
    by_cases q : b = x.D
    · obtain ⟨o2, es2, ep2, e2, d2⟩ := ns_kind n.ns
      subst q
      have : s.heap.get? x.D = some o2 := e2
      rw [this] at e; (injection e with e; subst e)
      exact ⟨o', e', .no (tabb_d fun ps z => by rw [d2] at z; injection z)⟩
    · exact ⟨o, by rw [ok b q]; exact e, .same⟩⟩ aw)
end
end Mine

end
section
open PySem PySem.W PyProof.Rows
set_option maxRecDepth 100000
set_option linter.unusedSimpArgs false
namespace Mine
section
variable {c : Cls} {vars : List Str} {ex : PySem.Expr}
theorem isSelf_of {b : PySem.Expr} (h : isSelf b = true) : ∃ p, b = .Name ("self" : Str) p := by
  apply o_Name_elim h; intro n p h
  exact ⟨p, by rw [beq_iff_eq.mp h]⟩
theorem isVar_of {v : Nat} {n : Str} (h : isVar vars v n = true) : vars[v]? = some n := beq_iff_eq.mp h
theorem isMeth_of {m : Nat} {n : Str} (h : isMeth c m n = true) : ∃ md, c.P[m]? = some md ∧ md.nm = n := by
  unfold isMeth at h; split at h
  · rename_i md e; exact ⟨md, e, beq_iff_eq.mp h⟩
  · injection h
theorem tr_int {i : Int} (h : trE c vars (.int i) ex = true) : ∃ k p, ex = .Constant (.int i) k p := by
  replace h := inv_trE_int h
  obtain ⟨_, _, _, rfl, h⟩ := h
  try simp only [Bool.and_eq_true, beq_iff_eq] at h
  subst h; exact ⟨_, _, rfl⟩
theorem tr_none (h : trE c vars .none ex = true) : ∃ k p, ex = .Constant .none k p := by
  replace h := inv_trE_none h
  obtain ⟨_, _, rfl, h⟩ := h
  exact ⟨_, _, rfl⟩
theorem tr_var {v : Nat} (h : trE c vars (.var v) ex = true) : ∃ n p, ex = .Name n p ∧ isVar vars v n = true := by
  replace h := inv_trE_var h
  obtain ⟨_, _, rfl, h⟩ := h
  try simp only [Bool.and_eq_true, beq_iff_eq] at h
  exact ⟨_, _, rfl, h⟩
theorem tr_fld {f : Fld} (h : trE c vars (.fld f) ex = true) : ∃ b p, ex = .Attribute b f.nm p ∧ isSelf b = true := by
  replace h := inv_trE_fld h
  obtain ⟨_, _, _, rfl, h⟩ := h
  try simp only [Bool.and_eq_true, beq_iff_eq] at h
  obtain ⟨h1, rfl⟩ := h; exact ⟨_, _, rfl, h1⟩
theorem tr_cst {k : Nat} (h : trE c vars (.cst k) ex = true) : ∃ b n v p, ex = .Attribute b n p ∧ isSelf b = true ∧ c.csts[k]? = some (n, v) := by
  replace h := inv_trE_cst h
  obtain ⟨_, _, _, rfl, h⟩ := h
  try simp only [Bool.and_eq_true, beq_iff_eq] at h
  obtain ⟨h1, h2⟩ := h
  split at h2
  · rename_i y e; obtain ⟨n, v⟩ := y; obtain rfl : n = _ := beq_iff_eq.mp h2; exact ⟨_, _, v, _, rfl, h1, e⟩
  · injection h2
theorem tr_mref {m : Nat} (h : trE c vars (.mref m) ex = true) : ∃ b n p, ex = .Attribute b n p ∧ isSelf b = true ∧ isMeth c m n = true := by
  replace h := inv_trE_mref h
  obtain ⟨_, _, _, rfl, h⟩ := h
  try simp only [Bool.and_eq_true, beq_iff_eq] at h
  exact ⟨_, _, _, rfl, h.1, h.2⟩
theorem tr_mem {i : E} (h : trE c vars (.mem i) ex = true) : ∃ b p e q, ex = .Subscript (.Attribute b ("memory" : Str) p) e q ∧ isSelf b = true ∧ plainE e = true ∧ trE c vars i e = true := by
  replace h := inv_trE_mem h
  obtain ⟨_, _, _, _, _, rfl, h⟩ := h
  try simp only [Bool.and_eq_true, beq_iff_eq] at h
  obtain ⟨⟨⟨h1, rfl⟩, h2⟩, h3⟩ := h; exact ⟨_, _, _, _, rfl, h1, h2, h3⟩
theorem tr_tab {t : Nat} {i : E} (h : trE c vars (.tab t i) ex = true) : ∃ b n l p e q, ex = .Subscript (.Attribute b n p) e q ∧ isSelf b = true ∧ c.tabs[t]? = some (n, l) ∧ plainE e = true ∧ trE c vars i e = true := by
  replace h := inv_trE_tab h
  obtain ⟨_, _, _, _, _, rfl, h⟩ := h
  try simp only [Bool.and_eq_true, beq_iff_eq] at h
  obtain ⟨⟨⟨h1, h2⟩, h3⟩, h4⟩ := h
  split at h2
  · rename_i y e; obtain ⟨n, v⟩ := y; obtain rfl : n = _ := beq_iff_eq.mp h2; exact ⟨_, _, v, _, _, _, rfl, h1, e, h3, h4⟩
  · injection h2
theorem tr_bin {op : BOp} {a b : E} (h : trE c vars (.bin op a b) ex = true) : ∃ l r p, ex = .BinOp l op.op r p ∧ trE c vars a l = true ∧ trE c vars b r = true := by
  replace h := inv_trE_bin h
  obtain ⟨_, _, _, _, rfl, h⟩ := h
  try simp only [Bool.and_eq_true, beq_iff_eq] at h
  obtain ⟨⟨rfl, h1⟩, h2⟩ := h; exact ⟨_, _, _, rfl, h1, h2⟩
theorem tr_inv {a : E} (h : trE c vars (.inv a) ex = true) : ∃ l p, ex = .UnaryOp .Invert l p ∧ trE c vars a l = true := by
  replace h := inv_trE_inv h
  obtain ⟨_, _, _, rfl, h⟩ := h
  try simp only [Bool.and_eq_true, beq_iff_eq] at h
  obtain ⟨rfl, h1⟩ := h; exact ⟨_, _, rfl, h1⟩
theorem tr_cmp {op : COp} {a b : E} (h : trE c vars (.cmp op a b) ex = true) : ∃ l r p, ex = .Compare l [op.op] [r] p ∧ plainE r = true ∧ trE c vars a l = true ∧ trE c vars b r = true := by
  replace h := inv_trE_cmp h
  obtain ⟨_, _, _, _, rfl, h⟩ := h
  try simp only [Bool.and_eq_true, beq_iff_eq] at h
  obtain ⟨⟨⟨rfl, h0⟩, h1⟩, h2⟩ := h; exact ⟨_, _, _, rfl, h0, h1, h2⟩
theorem tr_isNone {v : Nat} (h : trE c vars (.isNone v) ex = true) : ∃ n p k q p', ex = .Compare (.Name n p) [.Is] [.Constant .none k q] p' ∧ isVar vars v n = true := by
  replace h := inv_trE_isNone h
  obtain ⟨_, _, _, _, _, _, rfl, h⟩ := h
  try simp only [Bool.and_eq_true, beq_iff_eq] at h
  obtain ⟨rfl, h1⟩ := h; exact ⟨_, _, _, _, _, rfl, h1⟩
theorem tr_isNoneF {f : Fld} (h : trE c vars (.isNoneF f) ex = true) : ∃ b p k q p', ex = .Compare (.Attribute b f.nm p) [.Is] [.Constant .none k q] p' ∧ isSelf b = true := by
  replace h := inv_trE_isNoneF h
  obtain ⟨_, _, _, _, _, _, _, rfl, h⟩ := h
  try simp only [Bool.and_eq_true, beq_iff_eq] at h
  obtain ⟨⟨rfl, h1⟩, rfl⟩ := h; exact ⟨_, _, _, _, _, rfl, h1⟩
theorem tr_txt (h : trE c vars .txt ex = true) : ∃ s k p, ex = .Constant (.str s) k p := by
  replace h := inv_trE_txt h
  obtain ⟨_, _, _, rfl, h⟩ := h
  exact ⟨_, _, _, rfl⟩
theorem tr_bool {b : Bool} (h : trE c vars (.bool b) ex = true) : ∃ k p, ex = .Constant (.bool b) k p := by
  replace h := inv_trE_bool h
  obtain ⟨_, _, _, rfl, h⟩ := h
  try simp only [Bool.and_eq_true, beq_iff_eq] at h
  subst h; exact ⟨_, _, rfl⟩
theorem tr_call0 {m : Nat} (h : trE c vars (.call0 m) ex = true) : ∃ b n ap p, ex = .Call (.Attribute b n ap) [] [] p ∧ isSelf b = true ∧ isMeth c m n = true ∧ ap.endLine = p.line := by
  replace h := inv_trE_call0 h
  obtain ⟨_, _, _, _, rfl, h⟩ := h
  try simp only [Bool.and_eq_true, beq_iff_eq] at h
  obtain ⟨⟨h1, h2⟩, h3⟩ := h; exact ⟨_, _, _, _, rfl, h1, h2, h3⟩
theorem tr_call1 {m : Nat} {a : E} (h : trE c vars (.call1 m a) ex = true) : ∃ b n ap e p, ex = .Call (.Attribute b n ap) [e] [] p ∧ isSelf b = true ∧ isMeth c m n = true ∧ ap.endLine = p.line ∧ plainE e = true ∧ trE c vars a e = true := by
  replace h := inv_trE_call1 h
  obtain ⟨_, _, _, _, _, rfl, h⟩ := h
  try simp only [Bool.and_eq_true, beq_iff_eq] at h
  obtain ⟨⟨⟨⟨h1, h2⟩, h3⟩, h4⟩, h5⟩ := h; exact ⟨_, _, _, _, _, rfl, h1, h2, h3, h4, h5⟩
theorem tr_call2 {m : Nat} {a d : E} (h : trE c vars (.call2 m a d) ex = true) : ∃ b n ap e f p, ex = .Call (.Attribute b n ap) [e, f] [] p ∧ isSelf b = true ∧ isMeth c m n = true ∧ ap.endLine = p.line ∧ plainE e = true ∧ plainE f = true ∧ trE c vars a e = true ∧ trE c vars d f = true := by
  replace h := inv_trE_call2 h
  obtain ⟨_, _, _, _, _, _, rfl, h⟩ := h
  try simp only [Bool.and_eq_true, beq_iff_eq] at h
  obtain ⟨⟨⟨⟨⟨⟨h1, h2⟩, h3⟩, h4⟩, h5⟩, h6⟩, h7⟩ := h; exact ⟨_, _, _, _, _, _, rfl, h1, h2, h3, h4, h5, h6, h7⟩
theorem tr_callV {v : Nat} (h : trE c vars (.callV v) ex = true) : ∃ n p q, ex = .Call (.Name n p) [] [] q ∧ isVar vars v n = true := by
  replace h := inv_trE_callV h
  obtain ⟨_, _, _, rfl, h⟩ := h
  try simp only [Bool.and_eq_true, beq_iff_eq] at h
  exact ⟨_, _, _, rfl, h⟩
theorem tr_callT {i : E} (h : trE c vars (.callT i) ex = true) : ∃ b p e q s r, ex = .Call (.Subscript (.Attribute b c.instrN p) e q) [.Name ("self" : Str) s] [] r ∧ isSelf b = true ∧ plainE e = true ∧ trE c vars i e = true := by
  replace h := inv_trE_callT h
  obtain ⟨_, _, _, _, _, _, _, _, rfl, h⟩ := h
  try simp only [Bool.and_eq_true, beq_iff_eq] at h
  obtain ⟨⟨⟨⟨h1, rfl⟩, h2⟩, h3⟩, rfl⟩ := h; exact ⟨_, _, _, _, _, _, rfl, h1, h2, h3⟩
end

inductive Rps (x : Cx) (h : Heap) : List V → List Value → Prop
  | nil : Rps x h [] []
  | cons {v : V} {y : Value} {vs : List V} {ys : List Value} : Rp x h v y → Rps x h vs ys → Rps x h (v :: vs) (y :: ys)
noncomputable def CallOk (x : Cx) (A : Around) (cf : Nat → List V → M → Option (V × M)) : Prop :=
  ∀ (m : Nat) (args : List V) (σ : M) (v : V) (σ' : M), cf m args σ = some (v, σ') → ∀ (s : Shared) (vals : List Value) (R : Result → Shared → Prop), Mr x σ s.heap → Rps x s.heap args vals →
    (∀ y s', Mr x σ' s'.heap → Rp x s'.heap v y → Kp [x.D, x.L] s s' → R (.ok (.ret y)) s') → codeAny (model x.prog x.w) A (.call (.ref (x.fnA m)) ⟨.ref x.I :: vals, []⟩) R s

section
variable {x : Cx} (O : Ok x) {A : Around} {E' : Value → Shared → Prop} {env : Env} {vars : List Str} (EO : EnvOk env vars) {ρ : Loc}
include EO in
theorem load_var {s : Shared} {σ : M} (_R : Mr x σ s.heap) (l : Lr x env vars ρ s.heap) {i : Nat} {n : Str} {p : Pos} {v : V} (hi : vars[i]? = some n) (hv : ρ.at i = some v) {Q : Value → Shared → Prop} (h : ∀ y, Rp x s.heap v y → Q y s) :
    wpAny (model x.prog x.w) A (eval (.Name n p) env) Q E' s := by
  obtain ⟨m, ns, r⟩ := l.ns
  have mem : n ∈ vars := List.mem_of_getElem? hi
  by_cases z : i = 0 → env.cells.lookup ("self" : Str) = none
  · obtain ⟨y, e, ry⟩ := r i n v hi hv z
    exact wpAny_Name (wpAny_loadName_local EO.kind (EO.loc i n hi z) ns e (h y ry)) (EO.nodbg n mem)
  · obtain ⟨rfl, z'⟩ := Classical.not_imp.mp z
    cases hi.symm.trans EO.self
    cases hv.symm.trans l.self
    cases hc : env.cells.lookup ("self" : Str) with
    | none => exact absurd hc z'
    | some c =>
      rcases EO.selfC c hc with q | q
      · exact wpAny_Name (wpAny_loadName_cell EO.kind q hc (l.cell c hc) (h _ rfl)) (EO.nodbg _ mem)
      · exact wpAny_Name (wpAny_loadName_free EO.kind q hc (l.cell c hc) (h _ rfl)) (EO.nodbg _ mem)
include EO in
theorem load_self {s : Shared} {σ : M} (R : Mr x σ s.heap) (l : Lr x env vars ρ s.heap) {p : Pos} {Q : Value → Shared → Prop} (h : Q (.ref x.I) s) : wpAny (model x.prog x.w) A (eval (.Name ("self" : Str) p) env) Q E' s :=
  load_var EO R l EO.self l.self fun y r => by obtain rfl := r; exact h
theorem BOp.binary {op : BOp} {s : Shared} {a b r : Int} {t u : Tok} (e : op.ev a b = some r) {Q : Value → Shared → Prop} (h : Q (.int r s.toks) { s with toks := s.toks + 1 }) : wpAny (model x.prog x.w) A (binaryOp op.op (.int a t) (.int b u)) Q E' s := by
  cases op <;> simp only [BOp.ev, Option.some.injEq] at e
  · subst e; exact add_int h
  · subst e; exact sub_int h
  · subst e; exact and_int h
  · subst e; exact or_int h
  · subst e; exact xor_int h
  · split at e
    · rename_i q; (injection e with e; subst e); exact lshift_int_small q.1 (by omega) q.2.2 h
    · injection e
  · split at e
    · rename_i q; (injection e with e; subst e); exact rshift_int q h
    · injection e
theorem BOp.inplace {op : BOp} {s : Shared} {a b r : Int} {t u : Tok} (e : op.ev a b = some r) {Q : Value → Shared → Prop} (h : Q (.int r s.toks) { s with toks := s.toks + 1 }) : wpAny (model x.prog x.w) A (inplaceOp op.op (.int a t) (.int b u)) Q E' s := by
  cases op <;> simp only [BOp.ev, Option.some.injEq] at e
  · subst e; exact PySem.P.iadd_int h
  · subst e; exact PySem.P.isub_int h
  · subst e; exact iand_int h
  · subst e; exact ior_int h
  · subst e; exact ixor_int h
  · split at e
    · rename_i q; (injection e with e; subst e); exact ilshift_int_small q.1 (by omega) q.2.2 h
    · injection e
  · split at e
    · rename_i q; (injection e with e; subst e); exact irshift_int q h
    · injection e
theorem COp.compare {op : COp} {s : Shared} {a b : Int} {t u : Tok} {Q : Value → Shared → Prop} (h : Q (.bool (op.ev a b)) s) : wpAny (model x.prog x.w) A (compareOp op.op (.int a t) (.int b u)) Q E' s := by
  cases op
  · exact PyProof.Rows.eq_int h
  · exact PyProof.Rows.ne_int h
  · exact PySem.P.lt_int h
  · exact PySem.P.le_int h
  · exact PySem.P.gt_int h
  · exact PySem.P.ge_int h
end
end Mine

end
section
open PySem PySem.W PyProof.Rows
set_option maxRecDepth 100000
namespace Mine
theorem Mr.grow {x : Cx} {σ : M} {h h' : Heap} (R : Mr x σ h) (k : ∀ b o, h.get? b = some o → h'.get? b = some o) : Mr x σ h' := by
  obtain ⟨st, i, ⟨m, n, r, z⟩, ⟨its, ⟨o, nn, e, q⟩, ia⟩, sz, tb⟩ := id R
  refine ⟨fun b o e => k b o (st b o e), k _ _ i, ⟨m, n.keeps k, fun f => ?_, z⟩, ⟨its, ⟨o, nn, k _ _ e, q⟩, ia⟩, sz, tb.keep fun b o _ e _ => k b o e⟩
  exact (r f).map fun v rv => rv.keeps R fun b o e _ _ => k b o e
theorem plain_sub {e : PySem.Expr} (h : plainE e = true) (o i : Value) : subscripted e false o i = operate [o, i] (getItem o i) := by
  cases e <;> first | rfl | injection h
theorem plain_star {e : PySem.Expr} (h : plainE e = true) (env : Env) (rest : List PySem.Expr) : starEach (e :: rest) env = (false, eval e env) :: starEach rest env := by
  cases e <;> first | rfl | injection h
theorem op_marks (op : COp) (e : PySem.Expr) (h : behindInMarks .Eq e = false) : behindInMarks op.op e = false := by cases op <;> exact h
theorem plain_marks {e : PySem.Expr} (h : plainE e = true) (op : COp) : behindInMarks op.op e = false := op_marks op e (by cases e <;> first | rfl | injection h)
theorem plain_swaps {e : PySem.Expr} (h : plainE e = true) (t : Option PySem.Expr) (n : Nat) (env : Env) : swapsWith e t n env = pure false := by
  cases e <;> first | rfl | injection h
section
variable {x : Cx} (O : Ok x) {A : Around} {E' : Value → Shared → Prop} {env : Env} {vars : List Str} (EO : EnvOk env vars) {ρ : Loc}
include O EO in
theorem call_self {s : Shared} {σ : M} (R : Mr x σ s.heap) (l : Lr x env vars ρ s.heap) {m : Nat} {md : MethD} (hm : x.c.P[m]? = some md) {bp ap p : Pos} {args : List PySem.Expr} {Q : Value → Shared → Prop}
    (hl : ap.endLine = p.line) (hf : methodCallForm args.length (backTo p (starEach args env)) [] = true) (h : wpAny (model x.prog x.w) A (callWith p (.ref (x.fnA m)) [.ref x.I] (backTo p (starEach args env)) []) Q E' s) :
    wpAny (model x.prog x.w) A (eval (.Call (.Attribute (.Name ("self" : Str) bp) md.nm ap) args [] p) env) Q E' s := by
  show wpAny _ _ (eval (.Name ("self" : Str) bp) env >>= fun ov => standAt ap.atName >>= fun _ => methodCall (.Name ("self" : Str) bp) md.nm ap p env ov args.length (backTo p (starEach args env)) []) _ _ _
  refine wpAny_bind (load_self EO R l (wpAny_bind (wpAny_standAt ?_)))
  unfold methodCall calleeOf methodCallPos
  rw [hf]
  have q : (ap.endLine == p.line) = true := by rw [hl]; exact beq_self_eq_true _
  simp only [if_true, Bool.not_true, Bool.false_or, q]
  exact wpAny_bind (wpAny_holding (meth_of O R hm (wpAny_bind (wpAny_pure h))))

theorem ints_at : ∀ {vs : List Value} {ns : List Int} (_ : IntsAre vs ns) (i : Nat) (n : Int), ns[i]? = some n → ∃ t, vs[i]? = some (.int n t)
  | _, _, .cons k t r, 0, n, h => by simp at h; subst h; exact ⟨t, rfl⟩
  | _, _, .cons k t r, i + 1, n, h => by simp at h; obtain ⟨t', e⟩ := ints_at r i n h; exact ⟨t', by simpa using e⟩
  | _, _, .nil, i, n, h => by simp at h
theorem at_of {l : List Int} {k n : Int} (h : at? l k = some n) : 0 ≤ k ∧ l[k.toNat]? = some n ∧ k.toNat < l.length := by
  unfold at? at h
  split at h
  · rename_i q; exact ⟨q, h, (List.getElem?_eq_some_iff.mp h).1⟩
  · injection h
theorem item_at {s : Shared} {a : Addr} {items : Array Value} {ns : List Int} (hl : s.heap.IsList a items) (hi : IntsAre items.toList ns) {k n : Int} {u : Tok} (h : at? ns k = some n) (hsz : ns.length < 2 ^ 62) {value e : PySem.Expr} (he : plainE e = true) {Q : Value → Shared → Prop}
    (hq : ∀ t, Q (.int n t) s) : wpAny (model x.prog x.w) A (subscriptTail value e (.ref a) (.int k u)) Q E' s := by
  obtain ⟨h0, hn, hlt⟩ := at_of h
  obtain ⟨t, ht⟩ := ints_at hi _ _ hn
  exact tail_any hl.typeIs slot_list_getitem.lookup (wpAny_getItem_list hl h0 (by omega) (by rw [← Array.getElem?_toList]; exact ht) (hq t)) (plain_sub he _ _)
theorem hm_get {σ : M} (h : σ.hm = true) : σ.get .mem = .memr := by
  show (match σ.hm with | true => V.memr | false => V.unset) = _
  rw [h]
theorem Kp.tok' {ds : List Addr} {s s' : Shared} (k : Kp ds s s') : Kp ds s { s' with toks := s'.toks + 1 } := k.trans .tok

end
structure Below (x : Cx) (A : Around) (cf : Nat → List V → M → Option (V × M)) : Prop where
  ok : CallOk x A cf
  P : ∀ m args σ r, cf m args σ = some r → ∃ md, x.c.P[m]? = some md
  sz : ∀ m args σ v σ', cf m args σ = some (v, σ') → σ.mem.length < 2 ^ 62 → σ'.mem.length < 2 ^ 62
structure Small (x : Cx) : Prop where
  tab : ∀ (k : Nat) (n : Str) (l : List Int), x.c.tabs[k]? = some (n, l) → l.length < 2 ^ 62
  ins : x.c.instr.length < 2 ^ 62
section
variable (x : Cx) (A : Around) (env : Env) (vars : List Str) (ρ : Loc)
noncomputable abbrev PostE (v : V) (σ' : M) (s : Shared) (Q : Value → Shared → Prop) : Prop := ∀ y s', Mr x σ' s'.heap → Lr x env vars ρ s'.heap → Rp x s'.heap v y → Kp [x.D, x.L] s s' → Q y s'
noncomputable def WE (ex : PySem.Expr) (σ : M) (v : V) (σ' : M) : Prop := ∀ (s : Shared) (Q : Value → Shared → Prop) (E' : Value → Shared → Prop), Mr x σ s.heap → Lr x env vars ρ s.heap → PostE x env vars ρ v σ' s Q → wpAny (model x.prog x.w) A (eval ex env) Q E' s
noncomputable def SE (cf : Nat → List V → M → Option (V × M)) (e : E) : Prop := ∀ (ex : PySem.Expr) (σ : M) (v : V) (σ' : M), trE x.c vars e ex = true → evE x.c cf ρ e σ = some (v, σ') → σ.mem.length < 2 ^ 62 → σ'.mem.length < 2 ^ 62 ∧ WE x A env vars ρ ex σ v σ'
end
section
variable {x : Cx} (O : Ok x) (Z : Small x) {A : Around} {env : Env} {vars : List Str} (EO : EnvOk env vars) {ρ : Loc} {cf : Nat → List V → M → Option (V × M)} (B : Below x A cf)
theorem e_int (i : Int) : SE x A env vars ρ cf (.int i) := fun ex σ v σ' ht he hz => by
  obtain ⟨k, p, rfl⟩ := tr_int ht
  (injection he with he; injection he with he hz; subst he; subst hz)
  exact ⟨hz, fun s Q E' R l h => wpAny_Constant_int (h _ _ R l ⟨_, rfl⟩ .tok)⟩
theorem e_none : SE x A env vars ρ cf .none := fun ex σ v σ' ht he hz => by
  obtain ⟨k, p, rfl⟩ := tr_none ht
  (injection he with he; injection he with he hz; subst he; subst hz)
  exact ⟨hz, fun s Q E' R l h => wpAny_Constant_none (h _ _ R l rfl .refl)⟩
theorem e_txt : SE x A env vars ρ cf .txt := fun ex σ v σ' ht he hz => by
  obtain ⟨s, k, p, rfl⟩ := tr_txt ht
  (injection he with he; injection he with he hz; subst he; subst hz)
  exact ⟨hz, fun s Q E' R l h => wpAny_Constant_str (h _ _ R l ⟨_, _, rfl⟩ .tok)⟩
theorem e_bool (b : Bool) : SE x A env vars ρ cf (.bool b) := fun ex σ v σ' ht he hz => by
  obtain ⟨k, p, rfl⟩ := tr_bool ht
  (injection he with he; injection he with he hz; subst he; subst hz)
  exact ⟨hz, fun s Q E' R l h => wpAny_Constant_bool (h _ _ R l rfl .refl)⟩
include EO in
theorem e_var (i : Nat) : SE x A env vars ρ cf (.var i) := fun ex σ v σ' ht he hz => by
  obtain ⟨n, p, rfl, hv⟩ := tr_var ht
  refine map_el he fun u hu e => ?_
  cases e
  exact ⟨hz, fun s Q E' R l h => load_var EO R l (isVar_of hv) hu fun y r => h y s R l r .refl⟩
include O EO
theorem e_fld (f : Fld) : SE x A env vars ρ cf (.fld f) := fun ex σ v σ' ht he hz => by
  obtain ⟨b, p, rfl, hb⟩ := tr_fld ht
  obtain ⟨bp, rfl⟩ := isSelf_of hb
  refine map_el he fun u hu e => ?_
  cases e
  obtain ⟨rfl, nu⟩ := V.got?_of hu
  exact ⟨hz, fun s Q E' R l h => Attribute_Name_ (load_self EO R l (get_fld O R f nu fun y r => h y _ R l r .tok))⟩
theorem e_cst (k : Nat) : SE x A env vars ρ cf (.cst k) := fun ex σ v σ' ht he hz => by
  obtain ⟨b, n, i, p, rfl, hb, hk⟩ := tr_cst ht
  obtain ⟨bp, rfl⟩ := isSelf_of hb
  refine map_el he fun u hu e => ?_
  cases e
  cases hk.symm.trans hu
  exact ⟨hz, fun s Q E' R l h => Attribute_Name_ (load_self EO R l (get_cst O R hk fun t => h _ _ R l ⟨t, rfl⟩ .tok))⟩
theorem e_mref (m : Nat) : SE x A env vars ρ cf (.mref m) := fun ex σ v σ' ht he hz => by
  obtain ⟨b, n, p, rfl, hb, hm⟩ := tr_mref ht
  obtain ⟨bp, rfl⟩ := isSelf_of hb
  obtain ⟨md, hmd, rfl⟩ := isMeth_of hm
  (injection he with he; injection he with he hz; subst he; subst hz)
  refine ⟨hz, fun s Q E' R l h => Attribute_Name_ (load_self EO R l (get_meth O R hmd ?_))⟩
  have aw2 : Away [x.D, x.L] s.heap (s.heap.push (methodObj (.ref (x.fnA m)) (.ref x.I))) := fun b o e _ _ => Heap.get?_push_of_some _ e
  exact h _ _ (R.grow fun b o e => Heap.get?_push_of_some _ e) (l.keeps R aw2) ⟨_, rfl, Heap.get?_push_size _ rfl⟩ ⟨_, _, rfl, aw2, fun b o e => ⟨o, Heap.get?_push_of_some _ e, .same⟩⟩
theorem e_mem {i : E} (ih : SE x A env vars ρ cf i) : SE x A env vars ρ cf (.mem i) := fun ex σ v σ' ht he hz => by
  obtain ⟨b, p, e, q, rfl, hb, hp, hi⟩ := tr_mem ht
  obtain ⟨bp, rfl⟩ := isSelf_of hb
  obtain ⟨hm, he⟩ := cond_of he
  obtain ⟨k, σ₁, h1, he⟩ := onI_of he
  obtain ⟨n, hn, e'⟩ := map_of he
  cases e'
  obtain ⟨z1, w1⟩ := ih e σ _ _ hi h1 hz
  refine ⟨z1, fun s Q E' R l h => Subscript_ (Attribute_Name_ (load_self EO R l (get_fld O R .mem (hm_get hm ▸ fun q => nomatch q) fun y r => ?_)))⟩
  obtain rfl : y = .ref x.L := (hm_get hm ▸ r :)
  refine w1 _ _ _ R l fun y s₁ R₁ l₁ r₁ k₁ => ?_
  obtain ⟨t, rfl⟩ := r₁
  obtain ⟨its, il, ia⟩ := R₁.mem
  exact item_at il.isList ia hn z1 hp fun t => h _ s₁ R₁ l₁ ⟨t, rfl⟩ (Kp.tok.trans k₁)
include Z in
theorem e_tab {t : Nat} {i : E} (ih : SE x A env vars ρ cf i) : SE x A env vars ρ cf (.tab t i) := fun ex σ v σ' ht he hz => by
  obtain ⟨b, n, tl, p, e, q, rfl, hb, htb, hp, hi⟩ := tr_tab ht
  obtain ⟨bp, rfl⟩ := isSelf_of hb
  obtain ⟨k, σ₁, h1, he⟩ := onI_of he
  obtain ⟨l', hl', he⟩ := bind_of he
  cases htb.symm.trans hl'
  obtain ⟨n', hn, e'⟩ := map_of he
  cases e'
  obtain ⟨z1, w1⟩ := ih e σ _ _ hi h1 hz
  obtain ⟨fa, cp, nf, vs, hk, ia⟩ := O.tab t n tl htb
  refine ⟨z1, fun s Q E' R l h => Subscript_ (Attribute_Name_ (load_self EO R l (get_lst O R fa hk cp nf (w1 _ _ _ R l fun y s₁ R₁ l₁ r₁ k₁ => ?_))))⟩
  obtain ⟨t', rfl⟩ := r₁
  exact item_at (items := vs.toArray) ⟨_, R₁.stays _ _ (O.X _ _ hk), rfl, _, rfl⟩ ia hn (Z.tab _ _ _ htb) hp fun t => h _ s₁ R₁ l₁ ⟨t, rfl⟩ (Kp.tok.trans k₁)
omit O EO in
theorem e_bin {op : BOp} {a b : E} (iha : SE x A env vars ρ cf a) (ihb : SE x A env vars ρ cf b) : SE x A env vars ρ cf (.bin op a b) := fun ex σ v σ' ht he hz => by
  obtain ⟨el, er, p, rfl, ha, hb⟩ := tr_bin ht
  obtain ⟨i, σ₁, h1, he⟩ := onI_of he
  obtain ⟨j, σ₂, h2, he⟩ := onI_of he
  obtain ⟨n, hn, e'⟩ := map_of he
  cases e'
  obtain ⟨z1, w1⟩ := iha el σ _ _ ha h1 hz
  obtain ⟨z2, w2⟩ := ihb er σ₁ _ _ hb h2 z1
  refine ⟨z2, fun s Q E' R l h => wpAny_BinOp (w1 s _ _ R l fun y s₁ R₁ l₁ r₁ k₁ => w2 s₁ _ _ R₁ l₁ fun y₂ s₂ R₂ l₂ r₂ k₂ => ?_)⟩
  obtain ⟨t, rfl⟩ := r₁
  obtain ⟨t₂, rfl⟩ := r₂
  exact BOp.binary hn (h _ _ R₂ l₂ ⟨_, rfl⟩ ((k₁.trans k₂).tok'))
omit O EO in
theorem e_inv {a : E} (ih : SE x A env vars ρ cf a) : SE x A env vars ρ cf (.inv a) := fun ex σ v σ' ht he hz => by
  obtain ⟨el, p, rfl, ha⟩ := tr_inv ht
  obtain ⟨i, σ₁, h1, he⟩ := onI_of he
  (injection he with he; injection he with he hz; subst he; subst hz)
  obtain ⟨z1, w1⟩ := ih el σ _ _ ha h1 hz
  refine ⟨z1, fun s Q E' R l h => UnaryOp_ (w1 s _ _ R l fun y s₁ R₁ l₁ r₁ k₁ => ?_)⟩
  obtain ⟨t, rfl⟩ := r₁
  exact invert_int (h _ _ R₁ l₁ ⟨_, rfl⟩ k₁.tok')
omit O EO in
theorem e_cmp2 {op : COp} {a b : E} (iha : SE x A env vars ρ cf a) (ihb : SE x A env vars ρ cf b) {ex : PySem.Expr} {σ : M} {v : V} {σ' : M} (ht : trE x.c vars (.cmp op a b) ex = true) (he : evE x.c cf ρ (.cmp op a b) σ = some (v, σ')) (hz : σ.mem.length < 2 ^ 62) :
    ∃ el er p c, ex = .Compare el [op.op] [er] p ∧ plainE er = true ∧ v = .bool c ∧ σ'.mem.length < 2 ^ 62 ∧ ∀ (s : Shared) (Q : Value → Shared → Prop) (E' : Value → Shared → Prop), Mr x σ s.heap → Lr x env vars ρ s.heap → (∀ s', Mr x σ' s'.heap → Lr x env vars ρ s'.heap → Kp [x.D, x.L] s s' → Q (.bool c) s') →
      wpAny (model x.prog x.w) A (eval el env) (fun y s₁ => wpAny (model x.prog x.w) A (eval er env) (fun y₂ s₂ => wpAny (model x.prog x.w) A (compareOp op.op y y₂) Q E' s₂) E' s₁) E' s := by
  obtain ⟨el, er, p, rfl, hp, ha, hb⟩ := tr_cmp ht
  obtain ⟨i, σ₁, h1, he⟩ := onI_of he
  obtain ⟨j, σ₂, h2, he⟩ := onI_of he
  (injection he with he; injection he with he hz; subst he; subst hz)
  obtain ⟨z1, w1⟩ := iha el σ _ _ ha h1 hz
  obtain ⟨z2, w2⟩ := ihb er σ₁ _ _ hb h2 z1
  refine ⟨el, er, p, _, rfl, hp, rfl, z2, fun s Q E' R l h => w1 s _ _ R l fun y s₁ R₁ l₁ r₁ k₁ => w2 s₁ _ _ R₁ l₁ fun y₂ s₂ R₂ l₂ r₂ k₂ => ?_⟩
  obtain ⟨t, rfl⟩ := r₁
  obtain ⟨t₂, rfl⟩ := r₂
  exact COp.compare (h _ R₂ l₂ (k₁.trans k₂))
omit O EO in
theorem e_cmp {op : COp} {a b : E} (iha : SE x A env vars ρ cf a) (ihb : SE x A env vars ρ cf b) : SE x A env vars ρ cf (.cmp op a b) := fun ex σ v σ' ht he hz => by
  obtain ⟨el, er, p, c, rfl, hp, rfl, z, w⟩ := e_cmp2 iha ihb ht he hz
  exact ⟨z, fun s Q E' R l h => wpAny_Compare1 (w s _ _ R l fun s' R' l' k' => h _ s' R' l' rfl k') (plain_marks hp op)⟩
omit O in
theorem e_isNone2 {i : Nat} {ex : PySem.Expr} {σ : M} {v : V} {σ' : M} (ht : trE x.c vars (.isNone i) ex = true) (he : evE x.c cf ρ (.isNone i) σ = some (v, σ')) :
    ∃ n p k q p' c, ex = .Compare (.Name n p) [.Is] [.Constant .none k q] p' ∧ v = .bool c ∧ σ' = σ ∧ ∀ (s : Shared) (Q : Value → Shared → Prop) (E' : Value → Shared → Prop), Mr x σ s.heap → Lr x env vars ρ s.heap → Q (.bool c) s →
      wpAny (model x.prog x.w) A (eval (.Name n p) env) (fun y s₁ => wpAny (model x.prog x.w) A (eval (.Constant .none k q) env) (fun y₂ s₂ => wpAny (model x.prog x.w) A (compareOp .Is y y₂) Q E' s₂) E' s₁) E' s := by
  obtain ⟨n, p, k, q, p', rfl, hv⟩ := tr_isNone ht
  refine bind_el he fun u hu he => ?_
  refine map_el he fun c hc e => ?_
  cases e
  refine ⟨n, p, k, q, p', c, rfl, rfl, rfl, fun s Q E' R l h => load_var EO R l (isVar_of hv) hu fun y r => wpAny_Constant_none ?_⟩
  cases u <;> cases hc
  · obtain ⟨t, rfl⟩ := r; exact is_int_none h
  · obtain rfl := r; exact wpAny_is_self rfl h
  · obtain ⟨a, rfl, _⟩ := r; exact is_ref_none h
  · obtain rfl := r; exact is_ref_none h
omit O in
theorem e_isNone (i : Nat) : SE x A env vars ρ cf (.isNone i) := fun ex σ v σ' ht he hz => by
  obtain ⟨n, p, k, q, p', c, rfl, rfl, rfl, w⟩ := e_isNone2 (A := A) (env := env) EO ht he
  exact ⟨hz, fun s Q E' R l h => wpAny_Compare1 (w s _ _ R l (h _ s R l rfl .refl)) rfl⟩
theorem e_isNoneF2 {f : Fld} {ex : PySem.Expr} {σ : M} {v : V} {σ' : M} (ht : trE x.c vars (.isNoneF f) ex = true) (he : evE x.c cf ρ (.isNoneF f) σ = some (v, σ')) :
    ∃ (l : PySem.Expr) (k : Nat) (q p' : Pos) (c : Bool), ex = .Compare l [.Is] [.Constant .none k q] p' ∧ v = .bool c ∧ σ' = σ ∧ ∀ (s : Shared) (Q : Value → Shared → Prop) (E' : Value → Shared → Prop), Mr x σ s.heap → Lr x env vars ρ s.heap → Q (.bool c) { s with toks := s.toks + 1 } →
      wpAny (model x.prog x.w) A (eval l env) (fun y s₁ => wpAny (model x.prog x.w) A (eval (.Constant .none k q) env) (fun y₂ s₂ => wpAny (model x.prog x.w) A (compareOp .Is y y₂) Q E' s₂) E' s₁) E' s := by
  obtain ⟨b, p, k, q, p', rfl, hb⟩ := tr_isNoneF ht
  obtain ⟨bp, rfl⟩ := isSelf_of hb
  refine map_el he fun c hc e => ?_
  cases e
  generalize hu : σ.get f = u at hc
  have nu : σ.get f ≠ .unset := fun q => by rw [← hu, q] at hc; cases hc
  refine ⟨_, k, q, p', c, rfl, rfl, rfl, fun s Q E' R l h => Attribute_Name_ (load_self EO R l (get_fld O R f nu fun y r => wpAny_Constant_none ?_))⟩
  rw [hu] at r
  cases u <;> cases hc
  · obtain ⟨t, rfl⟩ := r; exact is_int_none h
  · obtain rfl := r; exact wpAny_is_self rfl h
theorem e_isNoneF (f : Fld) : SE x A env vars ρ cf (.isNoneF f) := fun ex σ v σ' ht he hz => by
  obtain ⟨l, k, q, p', c, rfl, rfl, rfl, w⟩ := e_isNoneF2 (A := A) (env := env) O EO ht he
  exact ⟨hz, fun s Q E' R l h => wpAny_Compare1 (w s _ _ R l (h _ _ R l rfl .tok)) rfl⟩
include B
theorem e_call0 (m : Nat) : SE x A env vars ρ cf (.call0 m) := fun ex σ v σ' ht he hz => by
  obtain ⟨b, n, ap, p, rfl, hb, hm, hl⟩ := tr_call0 ht
  obtain ⟨bp, rfl⟩ := isSelf_of hb
  obtain ⟨md, hmd, rfl⟩ := isMeth_of hm
  refine ⟨B.sz _ _ _ _ _ he hz, fun s Q E' R l h => call_self O EO R l hmd hl rfl ?_⟩
  obtain ⟨fd, _, hk, _⟩ := (O.meth m md hmd).fd
  exact callWith_meth0 rfl (R.stays _ _ (O.X _ _ hk)) (wpAny_call (B.ok m [] σ v σ' he s [] _ R .nil fun y s' R' r k => h y s' R' (l.keeps R k.away) r k))
theorem e_call1 {m : Nat} {a : E} (ih : SE x A env vars ρ cf a) : SE x A env vars ρ cf (.call1 m a) := fun ex σ v σ' ht he hz => by
  obtain ⟨b, n, ap, e, p, rfl, hb, hm, hl, hp, ha⟩ := tr_call1 ht
  obtain ⟨bp, rfl⟩ := isSelf_of hb
  obtain ⟨md, hmd, rfl⟩ := isMeth_of hm
  obtain ⟨⟨u, σ₁⟩, h1, he⟩ := bind_of he
  obtain ⟨z1, w1⟩ := ih e σ _ _ ha h1 hz
  refine ⟨B.sz _ _ _ _ _ he z1, fun s Q E' R l h => call_self O EO R l hmd hl (by rw [plain_star hp env []]; rfl) ?_⟩
  obtain ⟨fd, _, hk, _⟩ := (O.meth m md hmd).fd
  exact callWith_meth (h₀ := x.h₀) rfl (O.X _ _ hk) (args_cons (w1 s _ _ R l fun y s₁ R₁ l₁ r₁ k₁ => args_nil ⟨R₁.stays, wpAny_call (B.ok m [u] σ₁ v σ' he s₁ [y] _ R₁ (.cons r₁ .nil) fun y s' R' r k => h y s' R' (l₁.keeps R₁ k.away) r (k₁.trans k))⟩) (plain_star hp env [])) (plain_star hp env [])
theorem e_call2 {m : Nat} {a d : E} (iha : SE x A env vars ρ cf a) (ihd : SE x A env vars ρ cf d) : SE x A env vars ρ cf (.call2 m a d) := fun ex σ v σ' ht he hz => by
  obtain ⟨b, n, ap, e, f, p, rfl, hb, hm, hl, hp, hp2, ha, hd⟩ := tr_call2 ht
  obtain ⟨bp, rfl⟩ := isSelf_of hb
  obtain ⟨md, hmd, rfl⟩ := isMeth_of hm
  obtain ⟨⟨u, σ₁⟩, h1, he⟩ := bind_of he
  obtain ⟨⟨u₂, σ₂⟩, h2, he⟩ := bind_of he
  obtain ⟨z1, w1⟩ := iha e σ _ _ ha h1 hz
  obtain ⟨z2, w2⟩ := ihd f σ₁ _ _ hd h2 z1
  refine ⟨B.sz _ _ _ _ _ he z2, fun s Q E' R l h => call_self O EO R l hmd hl (by rw [plain_star hp, plain_star hp2]; rfl) ?_⟩
  obtain ⟨fd, _, hk, _⟩ := (O.meth m md hmd).fd
  exact callWith_meth (h₀ := x.h₀) rfl (O.X _ _ hk) (args_cons (w1 s _ _ R l fun y s₁ R₁ l₁ r₁ k₁ => args_cons (w2 s₁ _ _ R₁ l₁ fun y₂ s₂ R₂ l₂ r₂ k₂ => args_nil ⟨R₂.stays, wpAny_call (B.ok m [u, u₂] σ₂ v σ' he s₂ [y, y₂] _ R₂ (.cons (r₁.keeps R₁ k₂.away) (.cons r₂ .nil)) fun y s' R' r k =>
    h y s' R' (l₂.keeps R₂ k.away) r ((k₁.trans k₂).trans k))⟩) (plain_star hp2 env [])) (plain_star hp env [f])) (plain_star hp env [f])
theorem e_callV (i : Nat) : SE x A env vars ρ cf (.callV i) := fun ex σ v σ' ht he hz => by
  obtain ⟨n, p, q, rfl, hv⟩ := tr_callV ht
  refine bind_el he fun u hu he => ?_
  refine bind_el he fun m hm he => ?_
  cases V.meth?_of hm
  refine ⟨B.sz _ _ _ _ _ he hz, fun s Q E' R l h => Call_Name0 (load_var EO R l (isVar_of hv) hu fun y r => ?_)⟩
  obtain ⟨a, rfl, ga⟩ := r
  obtain ⟨md, hm⟩ := B.P _ _ _ _ he
  obtain ⟨fd, _, hk, _⟩ := (O.meth m md hm).fd
  exact callWith_M0 (K := x.K) (env := env) (g := x.fnA m) (self := .ref x.I) ⟨ga, X' O R⟩ (by unfold fnIn; rw [hk]) (wpAny_call (method_call ga (B.ok m [] σ v σ' he s [] _ R .nil fun y s' R' r k => h y s' R' (l.keeps R k.away) r k)))
include Z
theorem e_callT {i : E} (ih : SE x A env vars ρ cf i) : SE x A env vars ρ cf (.callT i) := fun ex σ v σ' ht he hz => by
  obtain ⟨b, p, e, q, sp, r, rfl, hb, hp, hi⟩ := tr_callT ht
  obtain ⟨bp, rfl⟩ := isSelf_of hb
  obtain ⟨k, σ₁, h1, he⟩ := onI_of he
  obtain ⟨h0, he⟩ := ite_of he
  refine bind_el he fun m hm he => ?_
  obtain ⟨z1, w1⟩ := ih e σ _ _ hi h1 hz
  obtain ⟨fa, cp, nf, hk⟩ := O.ins
  refine ⟨B.sz _ _ _ _ _ he z1, fun s Q E' R l h => Call_ (Subscript_ (Attribute_Name_ (load_self EO R l (get_lst O R fa hk cp nf (w1 _ _ _ R l fun y s₁ R₁ l₁ r₁ k₁ => ?_)))))⟩
  obtain ⟨t', rfl⟩ := r₁
  have hl : s₁.heap.IsList x.insA (x.c.instr.map fun m => Value.ref (x.fnA m)).toArray := ⟨_, R₁.stays _ _ (O.X _ _ hk), rfl, _, rfl⟩
  have hlt := (List.getElem?_eq_some_iff.mp hm).1
  have hi := Z.ins
  refine tail_any hl.typeIs slot_list_getitem.lookup (wpAny_getItem_list hl h0 (by omega) (x := .ref (x.fnA m)) (by simp [hm]) ?_) (plain_sub hp _ _)
  obtain ⟨md, hm⟩ := B.P _ _ _ _ he
  obtain ⟨fd, _, hk, _⟩ := (O.meth m md hm).fd
  exact callWith_meth (h₀ := x.h₀) (first := []) rfl (O.X _ _ hk) (args_cons (load_self EO R₁ l₁ (args_nil ⟨R₁.stays, wpAny_call (B.ok m [] σ₁ v σ' he s₁ [] _ R₁ .nil fun y s' R' r k => h y s' R' (l₁.keeps R₁ k.away) r ((Kp.tok.trans k₁).trans k))⟩)))
theorem sound_E : ∀ e : E, SE x A env vars ρ cf e
  | .int i => e_int i
  | .none => e_none
  | .var i => e_var EO i
  | .fld f => e_fld O EO f
  | .cst k => e_cst O EO k
  | .mref m => e_mref O EO m
  | .mem i => e_mem O EO (sound_E i)
  | .tab t i => e_tab O Z EO (sound_E i)
  | .bin op a b => e_bin (sound_E a) (sound_E b)
  | .inv a => e_inv (sound_E a)
  | .cmp op a b => e_cmp (sound_E a) (sound_E b)
  | .isNone i => e_isNone EO i
  | .isNoneF f => e_isNoneF O EO f
  | .txt => e_txt
  | .bool b => e_bool b
  | .stuck => fun _ _ _ _ _ he _ => nomatch he
  | .call0 m => e_call0 O EO B m
  | .call1 m a => e_call1 O EO B (sound_E a)
  | .call2 m a d => e_call2 O EO B (sound_E a) (sound_E d)
  | .callV i => e_callV O EO B i
  | .callT i => e_callT O Z EO B (sound_E i)
end
end Mine

end
section
open PySem PySem.W PyProof.Rows
set_option maxRecDepth 100000
set_option linter.unusedSimpArgs false
namespace Mine
section
variable {c : Cls} {vars : List Str} {st : Stmt}
theorem ts_expr {e : E} (h : trS c vars (.expr e) st = true) : ∃ ex p, st = .Expr ex p ∧ plainE ex = true ∧ trE c vars e ex = true := by
  replace h := inv_trS_expr h
  obtain ⟨_, _, rfl, h⟩ := h
  simp only [Bool.and_eq_true] at h
  exact ⟨_, _, rfl, h.1, h.2⟩
theorem ts_asgV {v : Nat} {e : E} (h : trS c vars (.asgV v e) st = true) : ∃ n q ex p, st = .Assign [.Name n q] ex p ∧ v ≠ 0 ∧ isVar vars v n = true ∧ plainE ex = true ∧ trE c vars e ex = true := by
  replace h := inv_trS_asgV h
  obtain ⟨_, _, _, _, rfl, h⟩ := h
  simp only [Bool.and_eq_true, bne_iff_ne] at h
  exact ⟨_, _, _, _, rfl, h.1.1.1, h.1.1.2, h.1.2, h.2⟩
theorem ts_asgF {f : Fld} {e : E} (h : trS c vars (.asgF f e) st = true) : ∃ b q ex p, st = .Assign [.Attribute b f.nm q] ex p ∧ isSelf b = true ∧ plainE ex = true ∧ trE c vars e ex = true := by
  replace h := inv_trS_asgF h
  obtain ⟨_, _, _, _, _, rfl, h⟩ := h
  simp only [Bool.and_eq_true, beq_iff_eq] at h
  obtain ⟨⟨⟨h1, rfl⟩, h2⟩, h3⟩ := h
  exact ⟨_, _, _, _, rfl, h1, h2, h3⟩
theorem ts_asgM {i e : E} (h : trS c vars (.asgM i e) st = true) : ∃ b q ei r ex p, st = .Assign [.Subscript (.Attribute b ("memory" : Str) q) ei r] ex p ∧ isSelf b = true ∧ plainE ei = true ∧ plainE ex = true ∧ trE c vars i ei = true ∧ trE c vars e ex = true := by
  replace h := inv_trS_asgM h
  obtain ⟨_, _, _, _, _, _, _, rfl, h⟩ := h
  simp only [Bool.and_eq_true, beq_iff_eq] at h
  obtain ⟨⟨⟨⟨⟨h1, rfl⟩, h2⟩, h3⟩, h4⟩, h5⟩ := h
  exact ⟨_, _, _, _, _, _, rfl, h1, h2, h3, h4, h5⟩
theorem ts_augV {v : Nat} {op : BOp} {e : E} (h : trS c vars (.augV v op e) st = true) : ∃ n q ex p, st = .AugAssign (.Name n q) op.op ex p ∧ v ≠ 0 ∧ isVar vars v n = true ∧ trE c vars e ex = true := by
  replace h := inv_trS_augV h
  obtain ⟨_, _, _, _, _, rfl, h⟩ := h
  simp only [Bool.and_eq_true, beq_iff_eq, bne_iff_ne] at h
  obtain ⟨⟨⟨h1, h2⟩, rfl⟩, h3⟩ := h
  exact ⟨_, _, _, _, rfl, h1, h2, h3⟩
theorem ts_augF {f : Fld} {op : BOp} {e : E} (h : trS c vars (.augF f op e) st = true) : ∃ b q ex p, st = .AugAssign (.Attribute b f.nm q) op.op ex p ∧ isSelf b = true ∧ trE c vars e ex = true := by
  replace h := inv_trS_augF h
  obtain ⟨_, _, _, _, _, _, rfl, h⟩ := h
  simp only [Bool.and_eq_true, beq_iff_eq] at h
  obtain ⟨⟨⟨h1, rfl⟩, rfl⟩, h3⟩ := h
  exact ⟨_, _, _, _, rfl, h1, h3⟩
theorem ts_ite {t : E} {a b : Ss} (h : trS c vars (.ite t a b) st = true) : ∃ ex l r p, st = .If ex l r p ∧ (cmpE t || plainT ex) = true ∧ trE c vars t ex = true ∧ trSs c vars a l = true ∧ trSs c vars b r = true := by
  replace h := inv_trS_ite h
  obtain ⟨_, _, _, _, rfl, h⟩ := h
  simp only [Bool.and_eq_true] at h
  exact ⟨_, _, _, _, rfl, h.1.1.1, h.1.1.2, h.1.2, h.2⟩
theorem ts_ret {e : E} (h : trS c vars (.ret e) st = true) : ∃ ex p, st = .Return (some ex) p ∧ trE c vars e ex = true := by
  replace h := inv_trS_ret h
  obtain ⟨_, _, rfl, h⟩ := h
  exact ⟨_, _, rfl, h⟩
theorem ts_ret0 (h : trS c vars .ret0 st = true) : ∃ p, st = .Return none p := by
  replace h := inv_trS_ret0 h
  obtain ⟨_, rfl, h⟩ := h
  exact ⟨_, rfl⟩
theorem ts_pass (h : trS c vars .pass st = true) : ∃ p, st = .Pass p := by
  replace h := inv_trS_pass h
  obtain ⟨_, rfl, h⟩ := h
  exact ⟨_, rfl⟩
end

section
variable {x : Cx} {σ : M} {h h' : Heap} {env : Env} {vars : List Str} {ρ : Loc}
theorem Rp.off {v : V} {y : Value} {a : Addr} (r : Rp x h v y) (k : AwayF [a] h h') (d : ∃ o es ep, h.get? a = some o ∧ o.data = .dict es ep) : Rp x h' v y := by
  cases v <;> try exact r
  obtain ⟨b, e, g⟩ := r
  refine ⟨b, e, k b _ g fun q => ?_⟩
  have := List.mem_singleton.mp q
  subst this
  obtain ⟨o, es, ep, e1, e2⟩ := d
  rw [g] at e1; (injection e1 with e1; subst e1); injection e2
theorem Mr.off {a : Addr} (R : Mr x σ h) (k : AwayF [a] h h') (d : ∃ o es ep, h.get? a = some o ∧ o.data = .dict es ep) (nD : a ≠ x.D) (nL : a ≠ x.L) (nI : a ≠ x.I) (nB : x.h₀.get? a = none) : Mr x σ h' := by
  have k' : ∀ b o, b ≠ a → h.get? b = some o → h'.get? b = some o := fun b o q e => k b o e (by simpa using q)
  obtain ⟨st, i, ⟨m, n, r, z⟩, ⟨its, ⟨o, nn, e, q⟩, ia⟩, sz, tb⟩ := id R
  refine ⟨fun b o e => k' b o (fun q => by rw [q, nB] at e; injection e) (st b o e), k' _ _ (Ne.symm nI) i, ⟨m, n.at fun o e => k' _ o (Ne.symm nD) e, fun f => ?_, z⟩, ⟨its, ⟨o, nn, k' _ _ (Ne.symm nL) e, q⟩, ia⟩, sz, tb.keep fun b o vs e dv => k' b o (fun q => by
    obtain ⟨o2, es2, ep2, e2, d2⟩ := d
    rw [q, e2] at e; (injection e with e; subst e); rw [dv] at d2; injection d2) e⟩
  exact (r f).map fun v rv => rv.off k d
theorem Loc.at_set {v i : Nat} {u : V} (h : v < ρ.length) : Loc.at (ρ.set v (some u)) i = if i = v then some u else ρ.at i := by
  unfold Loc.at
  rw [List.getElem?_set]
  by_cases e : v = i
  · subst e; simp [h]
  · simp [e, Ne.symm e]
theorem ints_set : ∀ {vs : List Value} {ns : List Int} (_ : IntsAre vs ns) (i : Nat) (n : Int) (t : Tok), IntsAre (vs.set i (.int n t)) (ns.set i n)
  | _, _, .nil, _, _, _ => .nil
  | _, _, .cons k u r, 0, n, t => .cons n t r
  | _, _, .cons k u r, i + 1, n, t => .cons k u (ints_set r i n t)
end

section
variable {x : Cx} (O : Ok x) {A : Around} {env : Env} {vars : List Str} (EO : EnvOk env vars)
include EO in
theorem store_var {s : Shared} {σ : M} {ρ : Loc} (R : Mr x σ s.heap) (l : Lr x env vars ρ s.heap) {i : Nat} {n : Str} {u : V} {y : Value} (hi : vars[i]? = some n) (h0 : i ≠ 0) (r : Rp x s.heap u y) {Q : Unit → Shared → Prop} {E' : Value → Shared → Prop}
    (h : ∀ s', Mr x σ s'.heap → Lr x env vars (ρ.set i (some u)) s'.heap → Kp [x.D, x.L, env.locals] s s' → Q () s') : wpAny (model x.prog x.w) A (storeName env n y) Q E' s := by
  obtain ⟨m, ns, rs⟩ := l.ns
  have mem : n ∈ vars := List.mem_of_getElem? hi
  have hp : (env.scope.kind == .class || (env.scope.kind == .module && env.locals != env.globals)) = false := by rw [EO.kind]; rfl
  refine wpAny_storeName_local (EO.loc i n hi fun q => absurd q h0) ns (fun h' ns' sb => ?_) hp
  have aw : AwayF [env.locals] s.heap h' := fun b o e q => by rw [sb.2 b (by simpa using q)]; exact e
  have dk := ns_kind ns
  have hlt : i < ρ.length := by rw [l.len]; exact (List.getElem?_eq_some_iff.mp hi).1
  refine h _ (R.off aw dk l.nD l.nL l.nI l.nB) ?_ ⟨h', _, rfl, fun b o e _ q => aw b o e fun hb => q (by simp at hb; simp [hb]), fun b o e => by
    by_cases q : b = env.locals
    · obtain ⟨o', _, _, e', _⟩ := ns_kind ns'
      obtain ⟨o2, es2, ep2, e2, d2⟩ := dk
      subst q
      rw [e2] at e; (injection e with e; subst e)
      exact ⟨o', e', .no (tabb_d fun ps z => by rw [d2] at z; injection z)⟩
    · exact ⟨o, aw b o e (by simpa using q), .same⟩⟩
  have cl' : ∀ c, env.cells.lookup ("self" : Str) = some c → h'.IsCell c (some (.ref x.I)) := fun c hc => by
    obtain ⟨o, e, d⟩ := l.cell c hc
    refine ⟨o, aw c o e fun q => ?_, d⟩
    obtain ⟨o2, es2, ep2, e2, d2⟩ := dk
    rw [List.mem_singleton.mp q, e2] at e; (injection e with e; subst e); rw [d] at d2; injection d2
  refine ⟨⟨_, ns', fun j nj vj hj hv hz => ?_⟩, cl', l.nD, l.nL, l.nI, l.nB, by rw [List.length_set]; exact l.len, by rw [Loc.at_set hlt, if_neg (Ne.symm h0)]; exact l.self⟩
  rw [Loc.at_set hlt] at hv
  by_cases e : j = i
  · subst e
    rw [if_pos rfl] at hv
    (injection hv with hv; subst hv)
    rw [hi] at hj
    (injection hj with hj; subst hj)
    exact ⟨y, if_pos rfl, r.off aw dk⟩
  · rw [if_neg e] at hv
    obtain ⟨z, e1, e2⟩ := rs j nj vj hj hv hz
    refine ⟨z, ?_, e2.off aw dk⟩
    rw [if_neg ?_]; exact e1
    rintro rfl
    obtain ⟨a1, a2⟩ := List.getElem?_eq_some_iff.mp hi
    obtain ⟨b1, b2⟩ := List.getElem?_eq_some_iff.mp hj
    have nd := List.pairwise_iff_getElem.mp EO.nodup
    rcases Nat.lt_or_gt_of_ne e with q | q
    · exact nd j i b1 a1 q (b2.trans a2.symm)
    · exact nd i j a1 b1 q (a2.trans b2.symm)
include O in
theorem store_mem {s : Shared} {σ : M} (R : Mr x σ s.heap) {k v : Int} {u t : Tok} {ns : List Int} (hk : putAt σ.mem k v = some ns) (hz : σ.mem.length < 2 ^ 62) {Q : Unit → Shared → Prop} {E' : Value → Shared → Prop}
    (h : ∀ s', Mr x { σ with mem := ns } s'.heap → Kp [x.D, x.L] s s' → Q () s') : wpAny (model x.prog x.w) A (setItem (.ref x.L) (.int k u) (.int v t)) Q E' s := by
  unfold putAt at hk
  split at hk
  · rename_i q
    (injection hk with hk; subst hk)
    obtain ⟨its, il, ia⟩ := R.mem
    have hlen : its.size = σ.mem.length := by rw [← ia.length, Array.length_toList]
    refine set_plainL il q.1 (by omega) (by rw [hlen]; omega) fun h' il' sb => ?_
    have aw : Away [x.D, x.L] s.heap h' := fun b o e _ q => by rw [sb.2 b fun z => q (by simp [z])]; exact e
    have awL : ∀ b o, b ≠ x.L → s.heap.get? b = some o → h'.get? b = some o := fun b o q e => by rw [sb.2 b q]; exact e
    obtain ⟨st, i, ⟨m, n, r, z⟩, _, _, tb⟩ := id R
    refine h _ ⟨fun b o e => awL b o (fun q => by rw [q, O.nL] at e; injection e) (st b o e), awL _ _ (fun q => ?_) i, ⟨m, n.at fun o e => awL _ o O.DL e, fun f => ?_, z⟩, ⟨_, il', ?_⟩, by show (List.set _ _ _).length < _; rw [List.length_set]; exact R.sz, tb.keep fun b o vs e dv => awL b o (fun q => by
      obtain ⟨o2, _, e2, _, _, d2⟩ := id il
      rw [q, e2] at e; (injection e with e; subst e); rw [dv] at d2; injection d2) e⟩ ⟨h', _, rfl, aw, fun b o e => by
      by_cases q : b = x.L
      · obtain ⟨o', _, e', _⟩ := id il'
        obtain ⟨o2, _, e2, _, _, d2⟩ := id il
        subst q
        rw [e2] at e; (injection e with e; subst e)
        exact ⟨o', e', .no (tabb_d fun ps z => by rw [d2] at z; injection z)⟩
      · exact ⟨o, awL b o q e, .same⟩⟩
    · obtain ⟨o, k', e, _, _, d⟩ := il
      rw [← q, i] at e; (injection e with e; subst e); injection d
    · have : (({ σ with mem := σ.mem.set k.toNat v } : M)).get f = σ.get f := by cases f <;> rfl
      rw [this]
      exact (r f).map fun y ry => ry.keeps R aw
    · rw [Array.toList_setIfInBounds]; exact ints_set ia _ _ _
  · injection hk
end
end Mine

end
section
open PySem PySem.W PyProof.Rows
set_option maxRecDepth 100000
set_option linter.unusedSimpArgs false
set_option linter.unusedVariables false
set_option linter.unusedSectionVars false
namespace Mine
noncomputable def FlR (x : Cx) (h : Heap) : Fl → Flow → Prop
  | .next, f => f = .next
  | .ret v, f => ∃ y, f = .ret y ∧ Rp x h v y
theorem V.flat_of {v u : V} (h : v.flat? = some u) : u = v ∧ v ≠ .unset ∧ ∀ (x : Cx) (h h' : Heap) (y : Value), Rp x h v y → Rp x h' v y := by
  cases v <;> cases h <;> exact ⟨rfl, (by intro q; injection q), fun _ _ _ _ r => r⟩
section
variable (x : Cx) (A : Around) (env : Env) (vars : List Str) (cf : Nat → List V → M → Option (V × M))
noncomputable abbrev PostS (fl : Fl) (ρ' : Loc) (σ' : M) (s : Shared) (Q : Flow → Shared → Prop) : Prop :=
  ∀ f s', Mr x σ' s'.heap → Lr x env vars ρ' s'.heap → FlR x s'.heap fl f → Kp [x.D, x.L, env.locals] s s' → Q f s'
noncomputable def WS (m : Sem Flow) (ρ : Loc) (σ : M) (fl : Fl) (ρ' : Loc) (σ' : M) : Prop := ∀ (s : Shared) (Q : Flow → Shared → Prop) (E' : Value → Shared → Prop), Mr x σ s.heap → Lr x env vars ρ s.heap → PostS x env vars fl ρ' σ' s Q → wpAny (model x.prog x.w) A m Q E' s
noncomputable def SS (st : S) : Prop := ∀ (t : Stmt) (ρ : Loc) (σ : M) (fl : Fl) (ρ' : Loc) (σ' : M), trS x.c vars st t = true → exS x.c cf st ρ σ = some (fl, ρ', σ') → σ.mem.length < 2 ^ 62 → σ'.mem.length < 2 ^ 62 ∧ WS x A env vars (exec t env) ρ σ fl ρ' σ'
noncomputable def SSs (st : Ss) : Prop := ∀ (t : List Stmt) (ρ : Loc) (σ : M) (fl : Fl) (ρ' : Loc) (σ' : M), trSs x.c vars st t = true → exSs x.c cf st ρ σ = some (fl, ρ', σ') → σ.mem.length < 2 ^ 62 → σ'.mem.length < 2 ^ 62 ∧ WS x A env vars (execs t env) ρ σ fl ρ' σ'
end
section
variable {x : Cx} (O : Ok x) (Z : Small x) {A : Around} {env : Env} {vars : List Str} (EO : EnvOk env vars) {cf : Nat → List V → M → Option (V × M)} (B : Below x A cf)
theorem truthy_of {s : Shared} {v : V} {y : Value} {b : Bool} {Q : Bool → Shared → Prop} {E' : Value → Shared → Prop} (r : Rp x s.heap v y) (t : truth v = some b) (h : Q b s) : wpAny (model x.prog x.w) A (truthy y) Q E' s := by
  cases v <;> cases t
  · obtain ⟨u, rfl⟩ := r; exact PyProof.Rows.truthy_int h
  · obtain rfl := r; exact wpAny_truthy_bool h
  · obtain rfl := r; exact truthy_none h
theorem exS_asgM {c : Cls} {i e : E} {ρ : Loc} {σ : M} : exS c cf (.asgM i e) ρ σ = onI (evE c cf ρ e σ) fun x σ₁ => cond σ₁.hm (onI (evE c cf ρ i σ₁) fun k σ₂ => (putAt σ₂.mem k x).map fun l => (.next, ρ, { σ₂ with mem := l })) none := rfl
theorem plainT_is {ex : PySem.Expr} (h : plainT ex = true) : isTrue ex env (eval ex env) = (do let v ← eval ex env; standAt ex.pos; holding [v] (truthy v)) := by
  cases ex <;> first | rfl | injection h
include O Z EO B in
theorem sound_T {ρ : Loc} (e : E) (ex : PySem.Expr) (σ : M) (v : V) (σ' : M) (b : Bool) (ht : trE x.c vars e ex = true) (hp : (cmpE e || plainT ex) = true) (he : evE x.c cf ρ e σ = some (v, σ')) (hb : truth v = some b) (hz : σ.mem.length < 2 ^ 62) : ∀ (s : Shared) (Q : Bool → Shared → Prop) (E' : Value → Shared → Prop),
    Mr x σ s.heap → Lr x env vars ρ s.heap → (∀ s', Mr x σ' s'.heap → Lr x env vars ρ s'.heap → Kp [x.D, x.L] s s' → Q b s') → wpAny (model x.prog x.w) A (isTrue ex env (eval ex env)) Q E' s := by
  have bb : ∀ {c : Bool}, v = .bool c → b = c := fun q => by rw [q] at hb; (injection hb with hb; subst hb); rfl
  cases q : cmpE e with
  | false =>
    rw [q] at hp
    exact fun s Q E' R l h => isTrue_plain ((sound_E O Z EO B e ex σ v σ' ht he hz).2 s _ _ R l fun y s' R' l' r k => truthy_of r hb (h s' R' l' k)) (plainT_is hp)
  | true =>
    cases e <;> cases q
    · obtain ⟨el, er, p, c, rfl, hp, hv, z, w⟩ := e_cmp2 (sound_E O Z EO B _) (sound_E O Z EO B _) ht he hz
      obtain rfl := bb hv
      exact fun s Q E' R l h => wpAny_isTrue_Compare1 (w s _ _ R l fun s' R' l' k' => wpAny_truthy_bool (h s' R' l' k')) (plain_marks hp _)
    · obtain ⟨n, p, k, q, p', c, rfl, hv, rfl, w⟩ := e_isNone2 (A := A) (env := env) EO ht he
      obtain rfl := bb hv
      exact fun s Q E' R l h => wpAny_isTrue_Compare1 (w s _ _ R l (wpAny_truthy_bool (h s R l .refl))) rfl
    · obtain ⟨l, k, q, p', c, rfl, hv, rfl, w⟩ := e_isNoneF2 (A := A) (env := env) O EO ht he
      obtain rfl := bb hv
      exact fun s Q E' R l h => wpAny_isTrue_Compare1 (w s _ _ R l (wpAny_truthy_bool (h _ R l .tok))) rfl
theorem Kp.more {a b c : Addr} {s s' : Shared} (k : Kp [a, b] s s') : Kp [a, b, c] s s' := k.mono fun d hd => by
  rcases List.mem_cons.mp hd with h | h
  · exact h ▸ .head _
  · exact (List.mem_singleton.mp h) ▸ .tail _ (.head _)
theorem set_len {σ σ' : M} {f : Fld} {v : V} (h : σ.set f v = some σ') : σ'.mem.length = σ.mem.length := by rw [(M.get_set h).1]
theorem put_len {l l' : List Int} {k v : Int} (h : putAt l k v = some l') : l'.length = l.length := by
  obtain ⟨_, e⟩ := ite_of h
  (injection e with e; subst e)
  exact List.length_set
include O Z EO B
theorem s_expr (hi : interactive env = false) (e : E) : SS x A env vars cf (.expr e) := fun t ρ σ fl ρ' σ' ht he hz => by
  obtain ⟨ex, p, rfl, hp, hx⟩ := ts_expr ht
  obtain ⟨⟨v, σ₁⟩, h1, e1⟩ := map_of he
  cases e1
  obtain ⟨z1, w1⟩ := sound_E O Z EO B e ex σ _ _ hx h1 hz
  exact ⟨z1, fun s Q E' R l h => wpAny_Expr_any (w1 s _ _ R l fun y s' R' l' r k => h _ s' R' l' rfl k.more) hi (plain_swaps hp _ _ _)⟩
theorem s_asgV (v : Nat) (e : E) : SS x A env vars cf (.asgV v e) := fun t ρ σ fl ρ' σ' ht he hz => by
  obtain ⟨n, q, ex, p, rfl, h0, hv, hp, hx⟩ := ts_asgV ht
  obtain ⟨⟨u, σ₁⟩, h1, e1⟩ := bind_of he
  obtain ⟨_, e2⟩ := ite_of e1
  (injection e2 with e2; injection e2 with e2 hz; subst e2; cases hz)
  obtain ⟨z1, w1⟩ := sound_E O Z EO B e ex σ _ _ hx h1 hz
  exact ⟨z1, fun s Q E' R l h => wpAny_Assign_Name (w1 s _ _ R l fun y s' R' l' r k => store_var EO R' l' (isVar_of hv) h0 r fun s₂ R₂ l₂ k₂ => h _ s₂ R₂ l₂ rfl (k.more.trans k₂)) (plain_swaps hp _ _ _)⟩
theorem s_asgF (f : Fld) (e : E) : SS x A env vars cf (.asgF f e) := fun t ρ σ fl ρ' σ' ht he hz => by
  obtain ⟨b, q, ex, p, rfl, hb, hp, hx⟩ := ts_asgF ht
  obtain ⟨bp, rfl⟩ := isSelf_of hb
  obtain ⟨⟨u, σ₁⟩, h1, e1⟩ := bind_of he
  obtain ⟨u', hu, e2⟩ := bind_of e1
  obtain ⟨rfl, nu, fl⟩ := V.flat_of hu
  refine map_el e2 fun σ₂ h2 e3 => ?_
  cases e3
  obtain ⟨z1, w1⟩ := sound_E O Z EO B e ex σ _ _ hx h1 hz
  exact ⟨by rw [set_len h2]; exact z1, fun s Q E' R l h => plainObj_wpAny_Assign_Attribute (w1 s _ _ R l fun y s₁ R₁ l₁ r₁ k₁ => load_self EO R₁ l₁ (set_fld O R₁ h2 nu (fun h' => fl _ _ h' _ r₁) fun s₂ R₂ k₂ _ => h _ s₂ R₂ (l₁.keeps R₁ k₂.away) rfl (k₁.trans k₂).more)) (plain_swaps hp _ _ _)⟩
theorem s_asgM (i e : E) : SS x A env vars cf (.asgM i e) := fun t ρ σ fl ρ' σ' ht he hz => by
  obtain ⟨b, q, ei, r, ex, p, rfl, hb, hpi, hp, hxi, hx⟩ := ts_asgM ht
  obtain ⟨bp, rfl⟩ := isSelf_of hb
  obtain ⟨v, σ₁, h1, e1⟩ := onI_of (exS_asgM.symm.trans he)
  obtain ⟨hm, e1⟩ := cond_of e1
  obtain ⟨k, σ₂, h2, e2⟩ := onI_of e1
  refine map_el e2 fun ns h3 e3 => ?_
  cases e3
  obtain ⟨z1, w1⟩ := sound_E O Z EO B e ex σ _ _ hx h1 hz
  obtain ⟨z2, w2⟩ := sound_E O Z EO B i ei σ₁ _ _ hxi h2 z1
  refine ⟨by show ns.length < _; rw [put_len h3]; exact z2, fun s Q E' R l h => wpAny_Assign_Subscript (w1 s _ _ R l fun y s₁ R₁ l₁ r₁ k₁ => Attribute_Name_ (load_self EO R₁ l₁ (get_fld O R₁ .mem (hm_get hm ▸ fun q => nomatch q) fun y₁ ry => ?_))) (plain_swaps hp _ _ _)⟩
  obtain rfl : y₁ = .ref x.L := (hm_get hm ▸ ry :)
  refine w2 _ _ _ R₁ l₁ fun y₂ s₂ R₂ l₂ r₂ k₂ => ?_
  obtain ⟨t1, rfl⟩ := r₁
  obtain ⟨t2, rfl⟩ := r₂
  exact store_mem O R₂ h3 z2 fun s₃ R₃ k₃ => h _ s₃ R₃ (l₂.keeps R₂ k₃.away) rfl ((k₁.trans (Kp.tok.trans k₂)).trans k₃).more
theorem s_augV (v : Nat) (op : BOp) (e : E) : SS x A env vars cf (.augV v op e) := fun t ρ σ fl ρ' σ' ht he hz => by
  obtain ⟨n, q, ex, p, rfl, h0, hv, hx⟩ := ts_augV ht
  refine bind_el he fun u hu e0 => ?_
  refine bind_el e0 fun a ha e1 => ?_
  clear e0
  cases V.int?_of ha
  obtain ⟨b, σ₁, h1, e1⟩ := onI_of e1
  refine bind_el e1 fun r h2 e2 => ?_
  obtain ⟨_, e2⟩ := ite_of e2
  (injection e2 with e2; injection e2 with e2 hz; subst e2; cases hz)
  obtain ⟨z1, w1⟩ := sound_E O Z EO B e ex σ _ _ hx h1 hz
  refine ⟨z1, fun s Q E' R l h => wpAny_AugAssign_Name ?_⟩
  obtain ⟨m, ns, rs⟩ := l.ns
  obtain ⟨y, ey, ry⟩ := rs v n _ (isVar_of hv) hu fun q => absurd q h0
  refine wpAny_loadName_local EO.kind (EO.loc v n (isVar_of hv) fun q => absurd q h0) ns ey (w1 s _ _ R l fun y₁ s₁ R₁ l₁ r₁ k₁ => ?_)
  obtain ⟨t1, rfl⟩ := ry
  obtain ⟨t2, rfl⟩ := r₁
  exact BOp.inplace h2 (store_var (s := { s₁ with toks := s₁.toks + 1 }) EO R₁ l₁ (isVar_of hv) h0 (u := .int r) ⟨_, rfl⟩ fun s₂ R₂ l₂ k₂ => h _ s₂ R₂ l₂ rfl ((k₁.trans Kp.tok).more.trans k₂))
theorem s_augF (f : Fld) (op : BOp) (e : E) : SS x A env vars cf (.augF f op e) := fun t ρ σ fl ρ' σ' ht he hz => by
  obtain ⟨b, q, ex, p, rfl, hb, hx⟩ := ts_augF ht
  obtain ⟨bp, rfl⟩ := isSelf_of hb
  refine bind_el he fun a ha e1 => ?_
  have ha := V.int?_of ha
  obtain ⟨b, σ₁, h1, e1⟩ := onI_of e1
  refine bind_el e1 fun r h2 e2 => ?_
  refine map_el e2 fun σ₂ h3 e3 => ?_
  cases e3
  obtain ⟨z1, w1⟩ := sound_E O Z EO B e ex σ _ _ hx h1 hz
  refine ⟨by rw [set_len h3]; exact z1, fun s Q E' R l h => wpAny_AugAssign_AttributeAny (load_self EO R l (get_fld O R f (ha ▸ fun q => nomatch q) fun y ry => w1 _ _ _ R l fun y₁ s₁ R₁ l₁ r₁ k₁ => ?_))⟩
  obtain ⟨t1, rfl⟩ : Rp x s.heap (.int a) y := ha ▸ ry
  obtain ⟨t2, rfl⟩ := r₁
  exact BOp.inplace h2 (set_fld (s := { s₁ with toks := s₁.toks + 1 }) O R₁ h3 (fun q => nomatch q) (fun _ => ⟨_, rfl⟩) fun s₂ R₂ k₂ _ => h _ s₂ R₂ (l₁.keeps R₁ k₂.away) rfl ((((Kp.tok.trans k₁).trans Kp.tok)).trans k₂).more)
theorem s_iteM {t : E} {a b : Ss} (ga : SSs x A env vars cf a) (gb : SSs x A env vars cf b) : SS x A env vars cf (.ite t a b) := fun st ρ σ fl ρ' σ' ht he hz => by
  obtain ⟨ex, tl, tr, p, rfl, hp, hx, ha, hb⟩ := ts_ite ht
  obtain ⟨⟨v, σ₁⟩, h1, e1⟩ := bind_of he
  refine bind_el e1 fun q hv e1 => ?_
  have z1 := (sound_E O Z EO B t ex σ _ _ hx h1 hz).1
  have key : ∀ {st : Ss} {l : List Stmt}, SSs x A env vars cf st → trSs x.c vars st l = true → exSs x.c cf st ρ σ₁ = some (fl, ρ', σ') → (∀ {Q E' s}, wpAny (model x.prog x.w) A (execs l env) Q E' s → if q then wpAny (model x.prog x.w) A (execs tl env) Q E' s else wpAny (model x.prog x.w) A (execs tr env) Q E' s) → σ'.mem.length < 2 ^ 62 ∧ WS x A env vars (exec (.If ex tl tr p) env) ρ σ fl ρ' σ' := fun g hl e2 eq => by
    obtain ⟨z2, w2⟩ := g _ ρ σ₁ fl ρ' σ' hl e2 z1
    exact ⟨z2, fun s Q E' R l h => wpAny_If (sound_T O Z EO B t ex σ v σ₁ q hx hp h1 hv hz s _ _ R l fun s₁ R₁ l₁ k₁ => eq (w2 s₁ _ _ R₁ l₁ fun f s₂ R₂ l₂ r₂ k₂ => h f s₂ R₂ l₂ r₂ (k₁.more.trans k₂)))⟩
  cases q
  · exact key gb hb e1 fun h => h
  · exact key ga ha e1 fun h => h
theorem s_retM (e : E) : SS x A env vars cf (.ret e) := fun t ρ σ fl ρ' σ' ht he hz => by
  obtain ⟨ex, p, rfl, hx⟩ := ts_ret ht
  obtain ⟨⟨v, σ₁⟩, h1, e1⟩ := map_of he
  cases e1
  obtain ⟨z1, w1⟩ := sound_E O Z EO B e ex σ _ _ hx h1 hz
  exact ⟨z1, fun s Q E' R l h => wpAny_Return_some (w1 s _ _ R l fun y s' R' l' r k => h _ s' R' l' ⟨y, rfl, r⟩ k.more)⟩
omit O Z EO B in
theorem s_ret0 : SS x A env vars cf .ret0 := fun t ρ σ fl ρ' σ' ht he hz => by
  obtain ⟨p, rfl⟩ := ts_ret0 ht
  (injection he with he; injection he with he hz; subst he; cases hz)
  exact ⟨hz, fun s Q E' R l h => wpAny_Return_none (h _ s R l ⟨_, rfl, rfl⟩ .refl)⟩
omit O Z EO B in
theorem s_passM : SS x A env vars cf .pass := fun t ρ σ fl ρ' σ' ht he hz => by
  obtain ⟨p, rfl⟩ := ts_pass ht
  (injection he with he; injection he with he hz; subst he; cases hz)
  exact ⟨hz, fun s Q E' R l h => wpAny_Pass (h _ s R l rfl .refl)⟩
omit O Z EO B in
theorem ss_nilM : SSs x A env vars cf .nil := fun t ρ σ fl ρ' σ' ht he hz => by
  cases t <;> cases ht
  (injection he with he; injection he with he hz; subst he; cases hz)
  exact ⟨hz, fun s Q E' R l h => wpAny_execs_nil (h _ s R l rfl .refl)⟩
omit O Z EO B in
theorem ss_consM {a : S} {r : Ss} (ga : SS x A env vars cf a) (gr : SSs x A env vars cf r) : SSs x A env vars cf (.cons a r) := fun t ρ σ fl ρ' σ' ht he hz => by
  cases t with
  | nil => injection ht
  | cons st rest =>
    refine and_el ht fun h1 h2 => ?_
    obtain ⟨⟨f, ρ₁, σ₁⟩, h3, e3⟩ := bind_of he
    obtain ⟨z1, w1⟩ := ga st ρ σ f ρ₁ σ₁ h1 h3 hz
    cases f with
    | next =>
      obtain ⟨z2, w2⟩ := gr rest ρ₁ σ₁ fl ρ' σ' h2 e3 z1
      refine ⟨z2, fun s Q E' R l h => wpAny_execs_cons (w1 s _ _ R l fun f s₁ R₁ l₁ r₁ k₁ => ?_)⟩
      obtain rfl := r₁
      exact w2 s₁ _ _ R₁ l₁ fun f s₂ R₂ l₂ r₂ k₂ => h f s₂ R₂ l₂ r₂ (k₁.trans k₂)
    | ret v =>
      (injection e3 with e3; injection e3 with e3 hz; subst e3; cases hz)
      refine ⟨z1, fun s Q E' R l h => wpAny_execs_cons (w1 s _ _ R l fun f s₁ R₁ l₁ r₁ k₁ => ?_)⟩
      obtain ⟨y, rfl, ry⟩ := r₁
      exact h _ s₁ R₁ l₁ ⟨y, rfl, ry⟩ k₁
mutual
theorem sound_S (hi : interactive env = false) : ∀ st : S, SS x A env vars cf st
  | .expr e => s_expr O Z EO B hi e
  | .asgV v e => s_asgV O Z EO B v e
  | .asgF f e => s_asgF O Z EO B f e
  | .asgM i e => s_asgM O Z EO B i e
  | .augV v op e => s_augV O Z EO B v op e
  | .augF f op e => s_augF O Z EO B f op e
  | .ite _ a b => s_iteM O Z EO B (sound_Ss hi a) (sound_Ss hi b)
  | .ret e => s_retM O Z EO B e
  | .ret0 => s_ret0
  | .pass => s_passM
theorem sound_Ss (hi : interactive env = false) : ∀ st : Ss, SSs x A env vars cf st
  | .nil => ss_nilM
  | .cons a r => ss_consM (sound_S hi a) (sound_Ss hi r)
end
end
end Mine

end
section
open PySem PySem.W PyProof.Rows
set_option maxRecDepth 100000
set_option linter.unusedVariables false
namespace Mine
section
variable {x : Cx} (O : Ok x) (Z : Small x) {A : Around}
include O Z
theorem lam_call {d : Nat} (hd : A.depth + (d + 1) ≤ recursionLimit) {cf : Nat → List V → M → Option (V × M)} (B : ∀ A' : Around, A'.depth + d ≤ recursionLimit → Below x A' cf) {s : Shared} {σ σ' : M} {u v : V} {y : Value} {f c c' : Addr} {o : Obj} {name qual : Str} {params : Arguments} {lbody : PySem.Expr} {lscope : Scope} {pm ctv : Value}
    (R : Mr x σ s.heap) (ho : s.heap.get? f = some o) (hf : o.data = .func (kla_fn name qual params lbody lscope [(("self" : Str), c)] pm (.ref c') ctv)) (hcell : s.heap.IsCell c (some (.ref x.I))) (hcd : s.heap.CodeRec (.ref c') qual)
    (hbind : bindArgs (kla_fn name qual params lbody lscope [(("self" : Str), c)] pm (.ref c') ctv) ⟨[y], []⟩ = pure [(("x" : Str), y)]) (hk : lscope.kind = .function) (hco : lscope.isCoroutine = false) (hgen : lscope.isGenerator = false) (hnc : ∀ z ∈ lscope.names, z.2 ≠ .cell)
    (hx : lscope.names.lookup ("x" : Str) = some .local) (hs : lscope.names.lookup ("self" : Str) = some .free) (ht : trE x.c ["self", "x"] lamE lbody = true) (r : Rp x s.heap u y) (hv : evE x.c cf [some .self, some u] lamE σ = some (v, σ'))
    {P : Result → Shared → Prop} (post : ∀ z s', Mr x σ' s'.heap → Rp x s'.heap v z → Kp [x.D, x.L] s s' → P (.ok (.ret z)) s') : codeAny (model x.prog x.w) A (.call (.ref f) ⟨[y], []⟩) P s := by
  refine kla_callFunE (by omega) ho hf hco hgen rfl hcd ?_
  rw [hbind]
  refine wpAny_pure (wpAny_newFunctionEnv hnc (fun z hz => ?_) (fun h₁ hns hsb => ?_) hk)
  · rw [List.mem_singleton.mp hz]; exact hx
  have hk₁ : ∀ b o, s.heap.get? b = some o → h₁.get? b = some o := fun b o e => hsb.extBut b o (Nat.ne_of_lt (Heap.lt_size e)) (Heap.get?_push_of_some _ e)
  have R₁ : Mr x σ h₁ := R.grow hk₁
  refine ⟨O.lim.keeps R₁.stays, ?_⟩
  generalize hE : newEnv _ _ _ _ _ _ _ _ _ = env
  have eloc : env.locals = s.heap.objs.size := by rw [← hE]; rfl
  have ecell : env.cells = [(("self" : Str), c)] := by rw [← hE]; rfl
  have escope : env.scope = lscope := by rw [← hE]; rfl
  have ekind : ∀ n, env.kindOf n = lscope.names.lookup n := fun n => by rw [← hE]; rfl
  refine kla_codeExpr ?_
  have EO : EnvOk env ["self", "x"] := by
    refine ⟨by rw [escope]; exact hk, fun i n hi hz => ?_, fun c1 hc1 => .inr (by rw [ekind]; exact hs), by decide, by decide, rfl⟩
    match i, hi with
    | 0, hi => have := hz rfl; rw [ecell] at this; exact absurd this (by rw [List.lookup_cons, beq_self_eq_true]; exact fun q => nomatch q)
    | 1, hi => injection hi with hi; subst hi; rw [ekind]; exact hx
    | i + 2, hi => exact nomatch hi
  have B' := B (A.deeper env) (by show A.depth + 1 + d ≤ _; omega)
  have w := (sound_E O Z EO B' (ρ := [some .self, some u]) lamE lbody σ v σ' ht hv R.sz).2
  obtain ⟨mD, nD, _⟩ := R.ns
  obtain ⟨its, ⟨oL, _, eL, _⟩, _⟩ := R.mem
  refine w _ _ _ R₁ ⟨⟨_, by rw [eloc]; exact hns, fun i n u' hi hu hz => ?_⟩, fun c1 hc1 => ?_, by rw [eloc]; exact Ne.symm (Nat.ne_of_lt nD.lt), by rw [eloc]; exact Ne.symm (Nat.ne_of_lt (Heap.lt_size eL)), by rw [eloc]; exact Ne.symm (Nat.ne_of_lt (Heap.lt_size R.inst)), ?_, rfl, rfl⟩ fun z s' R' l' r' k' => post z s' R' r' ?_
  · match i, hi, hu with
    | 0, hi, hu => have := hz rfl; rw [ecell] at this; exact absurd this (by rw [List.lookup_cons, beq_self_eq_true]; exact fun q => nomatch q)
    | 1, hi, hu =>
      injection hi with hi; subst hi
      have hu : u = u' := Option.some.inj hu
      subst hu
      exact ⟨y, by rfl, r.keeps R fun b o e _ _ => hk₁ b o e⟩
    | i + 2, hi, hu => exact nomatch hi
  · rw [ecell, List.lookup_cons] at hc1
    have : c = c1 := by
      rw [beq_self_eq_true] at hc1; injection hc1
    subst this
    obtain ⟨o1, e1, d1⟩ := hcell
    exact ⟨o1, hk₁ _ _ e1, d1⟩
  · cases q : x.h₀.get? env.locals with
    | none => rfl
    | some o1 => rw [eloc] at q; exact absurd (Heap.lt_size (R.stays _ _ q)) (Nat.lt_irrefl _)
  · obtain ⟨h', t', rfl, aw, lv⟩ := k'
    exact ⟨h', t', rfl, fun b o e tb q => aw b o (hk₁ b o e) tb q, fun b o e => lv b o (hk₁ b o e)⟩
end
section
variable {x : Cx} {σ : M} {h h' : Heap}
theorem Mr.tabs (R : Mr x σ h) (n0 : x.h₀.get? tabP = none) (k : ∀ b o, b ≠ tabP → h.get? b = some o → h'.get? b = some o) (t : TabInv h') : Mr x σ h' := by
  obtain ⟨ps, e, ok, q⟩ := R.tab
  have nt : ∀ b o, h.get? b = some o → o ≠ tabObj ps → b ≠ tabP := fun b o eo ne q => by rw [q, e] at eo; exact ne (Option.some.inj eo).symm
  obtain ⟨st, i, ⟨m, n, r, z⟩, ⟨its, ⟨o, nn, eo, c, dn, d⟩, ia⟩, sz, _⟩ := id R
  obtain ⟨od, es, ep, ed, dd⟩ := ns_kind n.ns
  refine ⟨fun b o e => k b o (fun q => by rw [q, n0] at e; injection e) (st b o e), k _ _ (nt _ _ i fun q => by injection q with q; injection q) i,
    ⟨m, n.at fun o e => k _ o (nt _ _ e fun q => by rw [show h.get? x.D = some od from ed] at e; (injection e with e; subst e); rw [q] at dd; injection dd) e, fun f => (r f).map fun v rv => ?_, z⟩, ⟨its, ⟨o, nn, k _ _ (nt _ _ eo fun q => by rw [q] at d; injection d) eo, c, dn, d⟩, ia⟩, sz, t⟩
  exact rv.keeps R fun b o e tb _ => k b o (fun q => by
    subst q
    rw [show h.get? tabP = some (tabObj ps) from ‹_›] at e; (injection e with e; subst e); injection tb) e
end
section
variable {prog : Program} {w : World} {A : Around} {s : Shared} {E' : Value → Shared → Prop}
theorem mk_lam {params : Arguments} {lbody : PySem.Expr} {lscope : Scope} {env : Env} {cl : List (Str × Addr)} {c : Addr} {mg : Str → Option Value} {Q : Value → Shared → Prop} (hcl : closureFor lscope env = pure cl) (hge : env.globals = mainGlobals) (hg : s.heap.Ns mainGlobals mg) (hcode : env.code = .ref c) (C : CodeHd s.heap c tabP) (T : TabInv s.heap)
    (hgP : mainGlobals ≠ tabP) (hb : s.heap.BuiltinsAt mg tabP)
    (h : ∀ c' ctv h' t' f, (∀ b o, b ≠ tabP → s.heap.get? b = some o → h'.get? b = some o) → (∀ o, s.heap.get? tabP = some o → ∃ o', h'.get? tabP = some o' ∧ TabG tabP o o') → TabInv h' →
      h'.get? f = some { cls := .type "function", data := .func (kla_fn "<lambda>" lamQual params lbody lscope cl ((mg "__name__").getD .none) (.ref c') ctv) } → h'.CodeRec (.ref c') lamQual → Q (.ref f) { s with heap := h', toks := t' }) :
    wpAny (model prog w) A (makeFunction "<lambda>" lamQual params (.expr lbody) lscope env [] [] [] lamPos lamPos.line) Q E' s := by
  obtain ⟨ps, e, ok, q⟩ := T
  rcases q with q | ⟨c', q, rc⟩
  · refine kla_makeFunction (mg := mg) hcl hge hg hcode C e ok q hgP hb fun c' ctv h' tk hx hge2 hlt hrec htb => ?_
    have hP : (h'.push (kla_obj "<lambda>" lamQual params lbody lscope cl ((mg "__name__").getD .none) c' ctv)).get? tabP = some (tabObj (ps ++ #[rawInt lamPos.line, rawInt lamPos.col, .ref c'])) := Heap.get?_push_of_some _ htb
    have rc' := hrec.keeps (fun b o e => Heap.get?_push_of_some (kla_obj "<lambda>" lamQual params lbody lscope cl ((mg "__name__").getD .none) c' ctv) e)
    refine h c' ctv _ tk h'.objs.size (fun b o hb e => Heap.get?_push_of_some _ (hx b o hb e)) (fun o eo => ⟨_, hP, fun _ => ?_⟩) ⟨_, hP, ?_, .inr ⟨c', ?_, rc'⟩⟩ (Heap.get?_push_size _ rfl) rc'
    · rw [e] at eo; (injection eo with eo; subst eo)
      exact ⟨ps, _, rfl, rfl, .inl rfl⟩
    · rw [Array.toList_append]; exact TriplesOk_snoc _ _ _ _ ok
    · rw [Array.toList_append]; exact codeAmong_snoc _ ok q
  · refine kla_makeFunctionHit (mg := mg) hcl hge hg hcode C e ok q hb fun ctv h' tk hk hsz => ?_
    have k2 : ∀ b o, s.heap.get? b = some o → (h'.push { cls := .type "function", data := .func (kla_fn "<lambda>" lamQual params lbody lscope cl ((mg "__name__").getD .none) (.ref c') ctv) }).get? b = some o := fun b o e => Heap.get?_push_of_some _ (hk b o e)
    exact h c' ctv _ tk h'.objs.size (fun b o _ e => k2 b o e) (fun o eo => ⟨o, k2 _ _ eo, .same⟩) ⟨ps, k2 _ _ e, ok, .inr ⟨c', q, rc.keeps k2⟩⟩ (Heap.get?_push_size _ rfl) (rc.keeps k2)
end
theorem lam_ev {c c' : Cls} {cf cf' : Nat → List V → M → Option (V × M)} {ρ ρ' : Loc} {σ : M} (h : ρ.at 1 = ρ'.at 1) : evE c cf ρ lamE σ = evE c' cf' ρ' lamE σ := by
  unfold lamE
  simp only [evE, h]
theorem below_none {x : Cx} {A : Around} : Below x A fun _ _ _ => none := ⟨fun _ _ _ _ _ h => (nomatch h), fun _ _ _ _ h => (nomatch h), fun _ _ _ _ _ h => (nomatch h)⟩
theorem lam_same {c : Cls} {cf : Nat → List V → M → Option (V × M)} {ρ : Loc} {σ σ' : M} {v : V} (h : evE c cf ρ lamE σ = some (v, σ')) : σ' = σ := by
  have vr : ∀ {v σ σ'}, evE c cf ρ (.var 1) σ = some (v, σ') → σ' = σ := fun h => by
    obtain ⟨_, _, e⟩ := map_of h; injection e with _ e; exact e.symm
  have fl : ∀ {f v σ σ'}, evE c cf ρ (.fld f) σ = some (v, σ') → σ' = σ := fun h => by
    obtain ⟨_, _, e⟩ := map_of h; injection e with _ e; exact e.symm
  have it : ∀ {k v σ σ'}, evE c cf ρ (.int k) σ = some (v, σ') → σ' = σ := fun h => by injection h with h; injection h with _ h; exact h.symm
  have bn : ∀ {op a b v σ σ'}, (∀ {v σ σ'}, evE c cf ρ a σ = some (v, σ') → σ' = σ) → (∀ {v σ σ'}, evE c cf ρ b σ = some (v, σ') → σ' = σ) → evE c cf ρ (.bin op a b) σ = some (v, σ') → σ' = σ := fun ha hb h => by
    obtain ⟨i, τ, h1, h⟩ := onI_of h
    obtain ⟨j, τ', h2, h⟩ := onI_of h
    obtain ⟨_, _, e⟩ := map_of h
    injection e with _ e
    rw [← e, hb h2, ha h1]
  exact bn (fun h => bn vr fl h) (fun h => bn (fun h => bn vr it h) fl h) h
theorem wrap_data {x : Cx} {d m mB kW : Nat} {md mdB : MethD} {fd : FuncData} {b : List Stmt} {c : Addr} {lparams : Arguments} {lbody : PySem.Expr} {lscope : Scope} (hm : x.c.P[m]? = some md) (W : WrapM x md fd b mB kW mdB c lparams lbody lscope)
    {args : List V} {σ σ' : M} {v : V} (he : callM x.c (d + 1) m args σ = some (v, σ')) : ∃ u i τ₁ k τ₃ w8 n2 n wv, args = [u] ∧ evE x.c (callM x.c d) [some .self, some u] (.call1 mB (.var 1)) σ = some (.int i, τ₁) ∧ evE x.c (callM x.c d) [some .self, some u] lamE τ₁ = some (wv, τ₁) ∧
      callM x.c d mB [wv] τ₁ = some (.int k, τ₃) ∧ evE x.c (callM x.c d) [some .self, some u] (.cst kW) τ₃ = some (.int w8, σ') ∧ BOp.ev .shl k w8 = some n2 ∧ BOp.ev .add i n2 = some n ∧ v = .int n := by
  obtain ⟨md', hm', he1⟩ := bind_of he
  clear he
  rw [hm] at hm'; injection hm' with hm'; subst hm'
  obtain ⟨hn, he2⟩ := ite_of he1
  clear he1
  obtain ⟨⟨fl, ρ', σ₁⟩, he3, e'⟩ := map_of he2
  clear he2
  dsimp only at e'
  rw [W.np] at hn
  obtain ⟨u, rfl⟩ : ∃ u, args = [u] := by
    match args, hn with
    | [u], _ => exact ⟨u, rfl⟩
  rw [W.body, W.vars, W.np] at he3
  obtain ⟨⟨fl2, ρ2, σ2⟩, he4, e2⟩ := bind_of he3
  clear he3
  obtain ⟨⟨v0, τ⟩, he5, e3⟩ := map_of he4
  clear he4
  injection e3 with e3 e3'; injection e3' with e3' e3''
  subst e3 e3' e3''
  injection e2 with e2; injection e2 with e2 e2'; injection e2' with e2' e2''
  subst e2 e2' e2''
  injection e' with e' e''
  subst e''
  have e' : v0 = v := e'
  subst e'
  have hρ : ((some V.self :: [u].map some) ++ List.replicate ([("self" : Str), ("addr" : Str)].length - 2) none : Loc) = [some .self, some u] := rfl
  rw [hρ] at he5
  obtain ⟨i, τ₁, h1, he6⟩ := onI_of he5
  obtain ⟨j, τ₂, h2, he7⟩ := onI_of he6
  obtain ⟨n, hn2, e4⟩ := map_of he7
  clear he5 he6 he7
  injection e4 with e4 e4'
  subst e4 e4'
  obtain ⟨k, τ₃, h3, h2a⟩ := onI_of h2
  obtain ⟨w8, τ₄, h4, h2b⟩ := onI_of h2a
  obtain ⟨n2, hsh, e5⟩ := map_of h2b
  clear h2 h2a h2b
  injection e5 with e5 e5'
  injection e5 with e5
  subst e5 e5'
  obtain ⟨⟨wv, τ₅⟩, h5, h3c⟩ := bind_of h3
  have := lam_same h5
  dsimp only at h3c
  subst this
  exact ⟨u, i, _, k, τ₃, w8, n2, n, wv, rfl, h1, h5, h3c, h4, hsh, hn2, rfl⟩
theorem wrap_none {x : Cx} {m mB kW : Nat} {md mdB : MethD} {fd : FuncData} {b : List Stmt} {c : Addr} {lparams : Arguments} {lbody : PySem.Expr} {lscope : Scope} (hm : x.c.P[m]? = some md) (W : WrapM x md fd b mB kW mdB c lparams lbody lscope)
    {args : List V} {σ σ' : M} {v : V} (he : callM x.c 1 m args σ = some (v, σ')) : False := by
  obtain ⟨u, i, τ₁, k, τ₃, w8, n2, n, wv, _, _, _, h, _⟩ := wrap_data hm W he
  exact nomatch h
theorem wrap_sz {x : Cx} {A : Around} {d m mB kW : Nat} {md mdB : MethD} {fd : FuncData} {b : List Stmt} {c : Addr} {lparams : Arguments} {lbody : PySem.Expr} {lscope : Scope} (B : Below x A (callM x.c d)) (hm : x.c.P[m]? = some md) (W : WrapM x md fd b mB kW mdB c lparams lbody lscope)
    {args : List V} {σ σ' : M} {v : V} (he : callM x.c (d + 1) m args σ = some (v, σ')) (hz : σ.mem.length < 2 ^ 62) : σ'.mem.length < 2 ^ 62 := by
  obtain ⟨u, i, τ₁, k, τ₃, w8, n2, n, wv, _, h1, _, h3, h4, _⟩ := wrap_data hm W he
  obtain ⟨⟨u', τ⟩, h1a, h1b⟩ := bind_of h1
  obtain ⟨_, _, e⟩ := map_of h1a
  injection e with e e'
  subst e'
  have z1 := B.sz _ _ _ _ _ h1b hz
  have z3 := B.sz _ _ _ _ _ h3 z1
  obtain ⟨_, _, e⟩ := map_of h4
  injection e with e e'
  subst e'
  exact z3
section
variable {x : Cx} (O : Ok x) (Z : Small x)
include O Z
theorem wrap_call {d : Nat} {A : Around} (hd : A.depth + (d + 2) ≤ recursionLimit) (Bd : ∀ A' : Around, A'.depth + (d + 1) ≤ recursionLimit → Below x A' (callM x.c (d + 1))) {m mB kW : Nat} {md mdB : MethD} {fd : FuncData} {b : List Stmt} {c : Addr} {lparams : Arguments} {lbody : PySem.Expr} {lscope : Scope}
    (hm : x.c.P[m]? = some md) (hk : x.K.lookup (x.fnA m) = some ⟨.type "function", none, .func fd, #[]⟩) (hb : fd.body = .stmts b) (k1 : fd.scope.kind = .function) (k2 : fd.scope.isGenerator = false) (k3 : fd.scope.isCoroutine = false) (k6 : codeIn x.K fd.code fd.qualname = true) (W : WrapM x md fd b mB kW mdB c lparams lbody lscope)
    {args : List V} {σ σ' : M} {v : V} (he : callM x.c (d + 2) m args σ = some (v, σ')) {s : Shared} {vals : List Value} {R : Result → Shared → Prop} (Rm : Mr x σ s.heap) (rps : Rps x s.heap args vals)
    (post : ∀ y s', Mr x σ' s'.heap → Rp x s'.heap v y → Kp [x.D, x.L] s s' → R (.ok (.ret y)) s') : codeAny (model x.prog x.w) A (.call (.ref (x.fnA m)) ⟨.ref x.I :: vals, []⟩) R s := by
  obtain ⟨u, i, τ₁, k, τ₃, w8, n2, n, wv, rfl, h1, h5, h3c, h4, hsh, hn2, rfl⟩ := wrap_data hm W he
  -- the call
  obtain ⟨y, rfl, ry⟩ : ∃ y, vals = [y] ∧ Rp x s.heap u y := by
    cases rps with
    | cons r t => cases t; exact ⟨_, rfl, r⟩
  have XI := X' O Rm
  obtain ⟨mg, hmg, hbt⟩ := W.main
  obtain ⟨sS, sA, sW⟩ := W.sc
  have bnd : bindArgs fd ⟨[.ref x.I, y], []⟩ = pure [(("self" : Str), .ref x.I), (("addr" : Str), y)] := W.bind [.ref x.I, y] rfl
  refine codeAny_call_cells (by omega) (XI _ _ hk) rfl (O.lim.keeps Rm.stays) (codeRec_of XI k6) hb bnd W.clo (fun z hz => ?_) (fun s₁ I => ?_) k3 k2 k1
  · rcases List.mem_cons.mp hz with rfl | hz
    · exact .inr ⟨sS, W.cel _⟩
    · rw [List.mem_singleton.mp hz]; exact .inl sA
  generalize hE : callEnvC fd s.heap.objs.size (x.fnA m) = env at I ⊢
  have ekind : ∀ n, env.kindOf n = fd.scope.names.lookup n := fun n => by rw [← hE]; rfl
  have escope : env.scope = fd.scope := by rw [← hE]; rfl
  have eglob : env.globals = mainGlobals := by rw [← hE]; exact W.glob
  have ecode : env.code = .ref c := by rw [← hE]; exact W.hcode
  have equal : env.qual ++ "<lambda>" = lamQual := by rw [← hE]; exact W.qual
  have eloc : env.locals = s.heap.objs.size := by rw [← hE]; rfl
  obtain ⟨cc, hcc⟩ : ∃ cc, env.cells.lookup ("self" : Str) = some cc := Option.isSome_iff_exists.mp (by rw [← hE]; exact W.cel _)
  have gr := I.toInCall.keep
  have R₁ : Mr x σ s₁.heap := Rm.grow gr
  have cell1 : s₁.heap.IsCell cc (some (.ref x.I)) := by
    have := I.cell _ _ hcc
    have e : bindC env.kindOf [(("self" : Str), Value.ref x.I), (("addr" : Str), y)] (fun _ => none) ("self" : Str) = some (.ref x.I) := by
      unfold bindC bindC bindC
      rw [ekind, ekind, sS, sA]
      rfl
    rw [e] at this; exact this
  have nsA : bindL env.kindOf [(("self" : Str), Value.ref x.I), (("addr" : Str), y)] (fun _ => none) ("addr" : Str) = some y := by
    unfold bindL bindL bindL
    rw [ekind, ekind, sS, sA]
    rfl
  have hi : interactive env = false := by show (env.scope.kind == .module && _) = false; rw [escope, k1]; rfl
  obtain ⟨p1, p2, e1, bp, ap, q1, q2, q3, q4, e2, q5, q6, q7, rfl, hl, t1, t2⟩ := W.code
  refine wpAny_execs_cons (wpAny_Assign_Name (kla_eval (W.ldef env) ?_) (by rfl))
  rw [equal]
  refine mk_lam (W.lclo env cc hcc) eglob (hmg.keeps R₁.stays) ecode (W.head _ (X' O R₁)) R₁.tab W.ne (by obtain ⟨bm, o, a1, a2, a3, a4, a5, a6⟩ := hbt; exact ⟨bm, o, a1, a2, a3, a4, R₁.stays _ _ a5, a6⟩) fun c' ctv h' t' f keep tg T' hf hrec => ?_
  -- where the table stands
  obtain ⟨ps, eP, _⟩ := R₁.tab
  have nP : ∀ {b : Addr} {o : Obj}, s₁.heap.get? b = some o → (∀ qs, o.data ≠ .fields qs) → b ≠ tabP := fun e ne q => by
    rw [q, eP] at e; injection e with e; subst e; exact ne _ rfl
  have R₂ : Mr x σ h' := R₁.tabs W.nP keep T'
  have ns1 := I.toInCall.ns
  obtain ⟨od, es, epo, ed, dd, rd⟩ := ns1
  have ns2 : h'.Ns env.locals (bindL env.kindOf [(("self" : Str), Value.ref x.I), (("addr" : Str), y)] fun _ => none) := ⟨od, es, epo, keep _ _ (nP ed fun qs q => by rw [dd] at q; injection q) ed, dd, rd⟩
  have cell2 : h'.IsCell cc (some (.ref x.I)) := by
    obtain ⟨oc, ec, dc⟩ := cell1
    exact ⟨oc, keep _ _ (nP ec fun qs q => by rw [dc] at q; injection q) ec, dc⟩
  have hp : (env.scope.kind == .class || (env.scope.kind == .module && env.locals != env.globals)) = false := by rw [escope, k1]; rfl
  refine wpAny_storeName_local (by rw [ekind]; exact sW) ns2 (fun h3 ns3 sb => ?_) hp
  have aw : AwayF [env.locals] h' h3 := fun b o e q => by rw [sb.2 b (by simpa using q)]; exact e
  have dk := ns_kind ns2
  have nloc : ∀ {b : Addr} {o : Obj}, h'.get? b = some o → (∀ e p, o.data ≠ .dict e p) → b ∉ [env.locals] := fun e ne q => by
    obtain ⟨o2, es2, ep2, e2, d2⟩ := dk
    rw [List.mem_singleton.mp q, e2] at e; injection e with e; subst e; exact ne _ _ d2
  obtain ⟨mD, nD, _⟩ := Rm.ns
  obtain ⟨its, ⟨oL, _, eL, _⟩, _⟩ := Rm.mem
  have lD : env.locals ≠ x.D := by rw [eloc]; exact Ne.symm (Nat.ne_of_lt nD.lt)
  have lL : env.locals ≠ x.L := by rw [eloc]; exact Ne.symm (Nat.ne_of_lt (Heap.lt_size eL))
  have lI : env.locals ≠ x.I := by rw [eloc]; exact Ne.symm (Nat.ne_of_lt (Heap.lt_size Rm.inst))
  have lB : x.h₀.get? env.locals = none := by
    cases q : x.h₀.get? env.locals with
    | none => rfl
    | some o1 => rw [eloc] at q; exact absurd (Heap.lt_size (Rm.stays _ _ q)) (Nat.lt_irrefl _)
  have R₃ : Mr x σ h3 := R₂.off aw dk lD lL lI lB
  have cell3 : h3.IsCell cc (some (.ref x.I)) := by
    obtain ⟨oc, ec, dc⟩ := cell2
    exact ⟨oc, aw _ _ ec (nloc ec fun _ _ q => by rw [dc] at q; injection q), dc⟩
  have hf3 := aw _ _ hf (nloc hf fun _ _ q => nomatch q)
  have hrec3 : h3.CodeRec (.ref c') lamQual := by
    obtain ⟨c0, oc, vs, tq, a1, a2, a3, a4⟩ := hrec
    exact ⟨c0, oc, vs, tq, a1, aw _ _ a2 (nloc a2 fun _ _ q => by rw [a3] at q; injection q), a3, a4⟩
  have all3 : ∀ b o, b ≠ tabP → s.heap.get? b = some o → h3.get? b = some o := fun b o q e => by
    refine aw b o (keep b o q (gr b o e)) fun z => ?_
    rw [List.mem_singleton.mp z, eloc] at e
    exact absurd (Heap.lt_size e) (Nat.lt_irrefl _)
  have kp3 : Kp [x.D, x.L] s { s₁ with heap := h3, toks := t' + 1 } := by
    obtain ⟨h1, t1, rfl⟩ := I.toInCall.same
    refine ⟨h3, _, rfl, fun b o e tb _ => all3 b o (fun q => ?_) e, fun b o e => ?_⟩
    · rw [q] at e
      have := gr _ _ e
      rw [eP] at this; injection this with this; subst this; injection tb
    · by_cases q : b = tabP
      · subst q
        obtain ⟨o', e', tt⟩ := tg o (gr _ _ e)
        refine ⟨o', aw _ _ e' fun z => ?_, tt⟩
        rw [List.mem_singleton.mp z, eloc] at e
        exact absurd (Heap.lt_size e) (Nat.lt_irrefl _)
      · exact ⟨o, all3 b o q e, .same⟩
  have ry3 : Rp x h3 u y := by
    refine (ry.keeps Rm (h' := h3) fun b o e tb _ => all3 b o (fun q => ?_) e)
    rw [q] at e
    have := gr _ _ e
    rw [eP] at this; injection this with this; subst this; injection tb
  have EO : EnvOk env [("self" : Str), ("addr" : Str)] := by
    refine ⟨by rw [escope]; exact k1, fun i n hi hz => ?_, fun c1 hc1 => .inl (by rw [ekind]; exact sS), by decide, by decide, rfl⟩
    match i, hi with
    | 0, hi => have := hz rfl; rw [hcc] at this; injection this
    | 1, hi => injection hi with hi; subst hi; rw [ekind]; exact sA
    | i + 2, hi => exact nomatch hi
  have L₃ : Lr x env [("self" : Str), ("addr" : Str)] [some .self, some u] h3 := by
    refine ⟨⟨_, ns3, fun i n u' hi hu hz => ?_⟩, fun c1 hc1 => ?_, lD, lL, lI, lB, rfl, rfl⟩
    · match i, hi, hu with
      | 0, hi, hu => have := hz rfl; rw [hcc] at this; injection this
      | 1, hi, hu =>
        injection hi with hi; subst hi
        have hu : u = u' := Option.some.inj hu
        subst hu
        exact ⟨y, by rw [if_neg (by decide)]; exact nsA, ry3⟩
      | i + 2, hi, hu => exact nomatch hi
    · rw [hcc] at hc1; injection hc1 with hc1; subst hc1; exact cell3
  have B₁ : Below x (A.deeper env) (callM x.c (d + 1)) := Bd _ (by show A.depth + 1 + (d + 1) ≤ _; omega)
  have w1 := (sound_E O Z EO B₁ (ρ := [some .self, some u]) (.call1 mB (.var 1)) e1 σ (.int i) τ₁ t1 h1 R₃.sz).2
  have z1 := (sound_E O Z EO B₁ (ρ := [some .self, some u]) (.call1 mB (.var 1)) e1 σ (.int i) τ₁ t1 h1 R₃.sz).1
  obtain ⟨fdB, _, hkB, _⟩ := (O.meth mB mdB W.hB).fd
  refine wpAny_execs_cons (wpAny_Return_some (wpAny_BinOp (w1 { s₁ with heap := h3, toks := t' + 1 } _ _ R₃ L₃ fun y4 s4 R4 l4 r4 k4 => wpAny_BinOp (call_self O EO R4 l4 W.hB hl (by rfl) ?_))))
  have a4 := k4.away
  have ns4 := ns_keeps ns3 a4 (by simp [lD, lL])
  have cell4 := l4.cell cc hcc
  have nDL : ∀ {b : Addr} {o : Obj}, h3.get? b = some o → (∀ e p, o.data ≠ .dict e p) → (∀ a n, o.data ≠ .seq a n) → b ∉ [x.D, x.L] := fun e n1 n2 q => by
    obtain ⟨mm, nn, _⟩ := R₃.ns
    obtain ⟨o2, es2, ep2, e2, d2⟩ := ns_kind nn.ns
    obtain ⟨it, ⟨o3, kk, e3, _, _, d3⟩, _⟩ := R₃.mem
    rcases List.mem_cons.mp q with q | q
    · subst q
      have e2 : h3.get? x.D = some o2 := e2
      rw [e2] at e; injection e with e; subst e; exact n1 _ _ d2
    · have := List.mem_singleton.mp q; subst this
      have e3 : h3.get? x.L = some o3 := e3
      rw [e3] at e; injection e with e; subst e; exact n2 _ _ d3
  have hf4 := a4 _ _ hf3 rfl (nDL hf3 (fun _ _ q => nomatch q) fun _ _ q => nomatch q)
  have hrec4 : s4.heap.CodeRec (.ref c') lamQual := by
    obtain ⟨c0, oc, vs, tq, b1, b2, b3, b4⟩ := hrec3
    cases tb : tabb oc with
    | false => exact ⟨c0, oc, vs, tq, b1, a4 _ _ b2 tb (nDL b2 (fun _ _ q => by rw [b3] at q; injection q) fun _ _ q => by rw [b3] at q; injection q), b3, b4⟩
    | true =>
      obtain ⟨hh, tt, rfl, _, lv⟩ := k4
      obtain ⟨o', e', tg'⟩ := lv _ _ b2
      obtain ⟨vs', more, d', rfl, _⟩ := tg' tb
      rw [b3] at d'; injection d' with d'; subst d'
      exact ⟨c0, _, vs ++ more, tq, b1, e', rfl, by rw [Array.getElem?_append_left (by
        rcases Nat.lt_or_ge 1 vs.size with q | q
        · exact q
        · rw [Array.getElem?_eq_none q] at b4; injection b4)]; exact b4⟩
  have ry4 : Rp x s4.heap u y := ry3.keeps R₃ a4
  refine callWith_meth (h₀ := x.h₀) rfl (O.X _ _ hkB) (args_cons ?_ rfl) rfl
  refine wpAny_Call_NameR (wpAny_Name (wpAny_loadName_local (by rw [escope]; exact k1) (by rw [ekind]; exact sW) ns4 (if_pos rfl) ?_) (by decide))
  refine callWith_def rfl (args_cons (load_var EO R4 l4 (i := 1) (n := ("addr" : Str)) rfl (v := u) rfl fun y' ry' => args_nil ⟨hf4, wpAny_call ?_⟩) rfl) rfl
  refine lam_call O Z (d := d) (by show A.depth + 1 + (d + 1) ≤ _; omega) (cf := fun _ _ _ => none) (fun _ _ => below_none) R4 hf4 rfl cell4 hrec4 (W.lbind _ _ _ _ _) W.lk W.lco W.lgen W.lnc W.lx W.lself W.lam ry' ((lam_ev rfl).trans h5) fun z s5 R5 r5 k5 => ?_
  refine args_nil ⟨R5.stays, wpAny_call (B₁.ok mB [wv] τ₁ (.int k) τ₃ h3c s5 [z] _ R5 (.cons r5 .nil) fun y6 s6 R6 r6 k6 => ?_)⟩
  have l6 := (l4.keeps R4 k5.away).keeps R5 k6.away
  have w2 := (sound_E O Z EO B₁ (ρ := [some .self, some u]) (.cst kW) e2 τ₃ (.int w8) _ t2 h4 R6.sz).2
  refine w2 s6 _ _ R6 l6 fun y7 s7 R7 l7 r7 k7 => ?_
  obtain ⟨t6, rfl⟩ := r6
  obtain ⟨t7, rfl⟩ := r7
  refine BOp.binary hsh ?_
  obtain ⟨t4, rfl⟩ := r4
  refine BOp.binary hn2 ?_
  exact post _ _ R7 ⟨_, rfl⟩ (kp3.trans (k4.trans (k5.trans (k6.trans (k7.trans (Kp.tok' Kp.tok))))))
end
end Mine

end
section
open PySem PySem.W PyProof.Rows
set_option maxRecDepth 100000
namespace Mine
theorem lookup_nodup {β : Type} : ∀ {l : List (Str × β)} {n : Str} {y : β}, (l.map (·.1)).Nodup → (n, y) ∈ l → l.lookup n = some y
  | (k, z) :: l, n, y, nd, h => by
    rw [List.map_cons, List.nodup_cons] at nd
    rcases List.mem_cons.mp h with e | h
    · cases e; rw [List.lookup_cons, beq_self_eq_true]
    · have : n ≠ k := fun q => nd.1 (by rw [← q]; exact List.mem_map_of_mem (f := (·.1)) h)
      rw [List.lookup_cons, beq_eq_false_iff_ne.mpr this]
      exact lookup_nodup nd.2 h
theorem Rps.length {x : Cx} {h : Heap} : ∀ {vs : List V} {ys : List Value}, Rps x h vs ys → ys.length = vs.length
  | _, _, .nil => rfl
  | _, _, .cons _ r => by rw [List.length_cons, List.length_cons, r.length]
theorem Rps.at {x : Cx} {h : Heap} : ∀ {vs : List V} {ys : List Value} (_ : Rps x h vs ys) (i : Nat) (v : V), vs[i]? = some v → ∃ y, ys[i]? = some y ∧ Rp x h v y
  | _, _, .cons r _, 0, v, e => by (injection e with e; subst e); exact ⟨_, rfl, r⟩
  | _, _, .cons _ r, i + 1, v, e => by simpa using r.at i v (by simpa using e)
  | _, _, .nil, _, _, e => by simp at e
theorem Rps.grow {x : Cx} {σ : M} {h h' : Heap} (R : Mr x σ h) (k : ∀ b o, h.get? b = some o → h'.get? b = some o) : ∀ {vs : List V} {ys : List Value}, Rps x h vs ys → Rps x h' vs ys
  | _, _, .nil => .nil
  | _, _, .cons r t => .cons (r.keeps R fun b o e _ _ => k b o e) (t.grow R k)

theorem loc_start {args : List V} {k i : Nat} {u : V} (h : Loc.at ((some V.self :: args.map some) ++ List.replicate k none) i = some u) : (V.self :: args)[i]? = some u := by
  unfold Loc.at at h
  have e : (some V.self :: args.map some) = (V.self :: args).map some := rfl
  rw [e] at h
  by_cases q : i < (V.self :: args).length
  · rw [List.getElem?_append_left (by rw [List.length_map]; exact q), List.getElem?_map] at h
    cases z : (V.self :: args)[i]? with
    | none => rw [z] at h; injection h
    | some w => rw [z] at h; simpa using h
  · rw [List.getElem?_append_right (by rw [List.length_map]; omega), List.getElem?_replicate] at h
    split at h <;> injection h
section
variable {x : Cx} (O : Ok x) (Z : Small x)
theorem env_ok {m : Nat} {md : MethD} (mo : MethOk x m md) {fd : FuncData} (hk : fd.scope.kind = .function) (hl : ∀ v ∈ md.vars, fd.scope.names.lookup v = some .local) (hcl : fd.closure = []) (L a : Addr) : EnvOk (callEnv fd L a) md.vars :=
  ⟨hk, fun _ v hv _ => hl v (List.mem_of_getElem? hv), fun c h => (by rw [show (callEnv fd L a).cells = fd.closure from rfl, hcl] at h; injection h), mo.nodup, mo.nodbg, mo.self⟩
theorem call_parts {x : Cx} {d m : Nat} {args : List V} {σ : M} {v : V} {σ' : M} (he : callM x.c (d + 1) m args σ = some (v, σ')) : ∃ md fl ρ', x.c.P[m]? = some md ∧ args.length + 1 = md.np ∧
        exSs x.c (callM x.c d) md.body ((some V.self :: args.map some) ++ List.replicate (md.vars.length - md.np) none) σ = some (fl, ρ', σ') ∧ fl.out = v := by
  refine bind_el he fun md hm he => ?_
  obtain ⟨hn, he⟩ := ite_of he
  obtain ⟨⟨fl, ρ', σ₁⟩, h, e⟩ := map_of he
  cases e
  exact ⟨md, fl, ρ', hm, hn, h, rfl⟩
include O Z in
theorem call_args {d : Nat} {A : Around} (hd : A.depth + (d + 1) ≤ recursionLimit) (Bd : ∀ A' : Around, A'.depth + d ≤ recursionLimit → Below x A' (callM x.c d)) {m : Nat} {args : List V} {σ : M} {v : V} {σ' : M} (he : callM x.c (d + 1) m args σ = some (v, σ'))
    {as : Args} {vals : List Value} {s : Shared} {R : Result → Shared → Prop} (hbind : ∀ (fd : FuncData) (md : MethD), x.c.P[m]? = some md → x.K.lookup (x.fnA m) = some ⟨.type "function", none, .func fd, #[]⟩ → (Value.ref x.I :: vals).length = md.np → BindsTo s fd as ((md.vars.take md.np).zip (.ref x.I :: vals)))
    (Rm : Mr x σ s.heap) (rps : Rps x s.heap args vals) (hpl : ∀ (fd : FuncData) (md : MethD) (b : List Stmt), x.c.P[m]? = some md → x.K.lookup (x.fnA m) = some ⟨.type "function", none, .func fd, #[]⟩ → fd.body = .stmts b → PlainM x md fd b) (post : ∀ y s', Mr x σ' s'.heap → Rp x s'.heap v y → Kp [x.D, x.L] s s' → R (.ok (.ret y)) s') : codeAny (model x.prog x.w) A (.call (.ref (x.fnA m)) as) R s := by
  obtain ⟨md, fl, ρ', hm, hn, hx, hv⟩ := call_parts he
  have mo := O.meth m md hm
  obtain ⟨fd, b, hk, hb, pl, k1, k2, k3, k6⟩ := mo.fd
  obtain ⟨ht, k4, k5, kc, k7⟩ := hpl fd md b hm hk hb
  have hlen : (Value.ref x.I :: vals).length = md.np := by rw [List.length_cons, rps.length]; exact hn
  have XI := X' O Rm
  refine codeAny_call_def (fd := fd) (body := b) (binds := (md.vars.take md.np).zip (.ref x.I :: vals)) (by omega) (XI _ _ hk) rfl (O.lim.keeps Rm.stays) (codeRec_of XI k6) hb (hbind fd md hm hk hlen) k4 ?_ (fun h₁ ns hk₁ => ?_) k3 k2 k1
  · intro y hy
    exact k5 _ (List.mem_of_mem_take (List.of_mem_zip hy).1)
  · have Bd := Bd (A.deeper (callEnv fd s.heap.objs.size (x.fnA m))) (by show A.depth + 1 + d ≤ _; omega)
    have EO := env_ok mo k1 k5 kc s.heap.objs.size (x.fnA m)
    have hz := Rm.sz
    have hi : interactive (callEnv fd s.heap.objs.size (x.fnA m)) = false := by
      show (fd.scope.kind == .module && _) = false
      rw [k1]; rfl
    have w := (sound_Ss O Z EO Bd hi md.body b _ σ fl ρ' σ' ht hx hz).2
    have R₁ : Mr x σ h₁ := Rm.grow hk₁
    refine w _ _ _ R₁ ?_ fun f s' R' l' r' k' => ?_
    · obtain ⟨mD, nD, _⟩ := Rm.ns
      obtain ⟨its, ⟨oL, _, eL, _⟩, _⟩ := Rm.mem
      refine ⟨⟨_, ns, fun i n u hi hu _ => ?_⟩, fun c h => (by rw [show (callEnv fd s.heap.objs.size (x.fnA m)).cells = fd.closure from rfl, kc] at h; injection h), Ne.symm (Nat.ne_of_lt nD.lt), Ne.symm (Nat.ne_of_lt (Heap.lt_size eL)), Ne.symm (Nat.ne_of_lt (Heap.lt_size Rm.inst)), ?_, ?_, rfl⟩
      · have hu' : (V.self :: args)[i]? = some u := loc_start hu
        obtain ⟨y, hy, ry⟩ := (Rps.cons (x := x) (h := s.heap) (v := .self) rfl rps).at i u hu'
        refine ⟨y, ?_, ry.keeps Rm fun b o e _ _ => hk₁ b o e⟩
        have hil : i < md.np := by rw [← hlen]; exact (List.getElem?_eq_some_iff.mp hy).1
        refine lookup_nodup ?_ (List.mem_reverse.mpr ?_)
        · rw [List.map_reverse]
          refine List.pairwise_reverse.mpr (List.Pairwise.imp (fun h => Ne.symm h) ?_)
          exact (List.Sublist.nodup · mo.nodup) (((List.map_fst_zip (l₁ := md.vars.take md.np) (l₂ := Value.ref x.I :: vals) (by rw [hlen, List.length_take]; omega)).symm ▸ List.take_sublist _ _))
        · refine List.mem_of_getElem? (i := i) ?_
          rw [List.getElem?_zip_eq_some]
          exact ⟨by rw [List.getElem?_take_of_lt hil]; exact hi, hy⟩
      · cases q : x.h₀.get? s.heap.objs.size with
        | none => exact q
        | some o => exact absurd (Heap.lt_size (Rm.stays _ _ q)) (Nat.lt_irrefl _)
      · have := mo.npLe
        simp only [List.length_append, List.length_cons, List.length_map, List.length_replicate]
        omega
    · have kk : Kp [x.D, x.L] s s' := by
        obtain ⟨h', t', rfl, aw, lv⟩ := k'
        refine ⟨h', t', rfl, fun b o e tb q => aw b o (hk₁ b o e) tb fun z => ?_, fun b o e => lv b o (hk₁ b o e)⟩
        simp only [List.mem_cons, List.not_mem_nil, or_false, not_or] at q z
        rcases z with z | z | z
        · exact q.1 z
        · exact q.2 z
        · exact absurd (Heap.lt_size e) (by rw [z]; exact Nat.lt_irrefl _)
      cases fl with
      | next => obtain rfl := r'; subst hv; exact post _ s' R' rfl kk
      | ret u => obtain ⟨y, rfl, ry⟩ := r'; subst hv; exact post _ s' R' ry kk
include O Z in
theorem sound_call : ∀ (d : Nat) (A : Around), A.depth + d ≤ recursionLimit → Below x A (callM x.c d)
  | 0, A, _ => by
    have no : ∀ m args σ, callM x.c 0 m args σ = none := fun _ _ _ => rfl
    exact ⟨fun _ _ _ _ _ he => (by rw [no] at he; injection he), fun _ _ _ _ he => (by rw [no] at he; injection he), fun _ _ _ _ _ he => (by rw [no] at he; injection he)⟩
  | d + 1, A, hd => by
    refine ⟨fun m args σ v σ' he s vals R Rm rps post => ?_, fun m args σ r he => ?_, fun m args σ v σ' he hz => ?_⟩
    · obtain ⟨md, _, _, hm, _⟩ := call_parts he
      obtain ⟨fd, b, hk, hb, pl, k1, k2, k3, k6⟩ := (O.meth m md hm).fd
      rcases pl with pl | ⟨mB, kW, mdB, c, lp, lb, ls, W⟩
      · refine call_args O Z hd (fun A' h => sound_call d A' h) he (vals := vals) (fun fd' md' hm' hk' hlen => ?_) Rm rps (fun fd' md' b' hm' hk' hb' => ?_) post
        · rw [hm] at hm'; injection hm' with hm'; subst hm'
          rw [hk] at hk'; injection hk' with hk'; injection hk' with _ _ hk'; injection hk' with hk'; subst hk'
          exact pl.binds _ _ (X' O Rm) hlen
        · rw [hm] at hm'; injection hm' with hm'; subst hm'
          rw [hk] at hk'; injection hk' with hk'; injection hk' with _ _ hk'; injection hk' with hk'; subst hk'
          rw [hb] at hb'; injection hb' with hb'; subst hb'
          exact pl
      · cases d with
        | zero => exact (wrap_none hm W he).elim
        | succ d => exact wrap_call O Z hd (fun A' h => sound_call (d + 1) A' h) hm hk hb k1 k2 k3 k6 W he Rm rps post
    · obtain ⟨v, σ'⟩ := r
      obtain ⟨md, _, _, hm, _⟩ := call_parts he
      exact ⟨md, hm⟩
    · obtain ⟨md, fl, ρ', hm, hn, hx, hv⟩ := call_parts he
      have mo := O.meth m md hm
      obtain ⟨fd, b, hk, hb, pl, k1, k2, k3, k6⟩ := mo.fd
      rcases pl with ⟨ht, k4, k5, kc, k7⟩ | ⟨mB, kW, mdB, c, lp, lb, ls, W⟩
      · have Bd := sound_call d (A.deeper (callEnv fd 0 (x.fnA m))) (by show A.depth + 1 + d ≤ _; omega)
        have hi : interactive (callEnv fd 0 (x.fnA m)) = false := by
          show (fd.scope.kind == .module && _) = false
          rw [k1]; rfl
        exact (sound_Ss O Z (env_ok mo k1 k5 kc 0 (x.fnA m)) Bd hi md.body b _ σ fl ρ' σ' ht hx hz).1
      · cases d with
        | zero => exact (wrap_none hm W he).elim
        | succ d => exact wrap_sz (sound_call (d + 1) { A with depth := 0 } (by show 0 + (d + 1) ≤ _; omega)) hm W he hz
end
end Mine

end
section
open PySem PySem.W PyProof.Rows
set_option linter.unusedVariables false
set_option maxRecDepth 100000
namespace Mine
inductive At where
  | int (i : Int) | bool (b : Bool) | none | ints (xs : List Int)
inductive LV where
  | at (a : At)
  | tup (xs : List At)
  | rows (xs : List (List At))
  | lists (xs : List (List Int))
  | own (xs : List Int)
  | ownR (xs : List (List At))
  | mpu (σ : M) (mv : Nat)
noncomputable abbrev LV.int (i : Int) : LV := .at (.int i)
noncomputable abbrev LV.bool (b : Bool) : LV := .at (.bool b)
noncomputable abbrev LV.ints (xs : List Int) : LV := .at (.ints xs)
inductive LOp where
  | add | sub | mul | fdiv | mod | pow
  deriving DecidableEq
mutual
inductive LE where
  | int (i : Int)
  | bool (b : Bool)
  | none
  | var (v : Nat)
  | own (v : Nat)
  | bin (op : LOp) (a b : LE)
  | cmp (op : COp) (a b : LE)
  | or (a b : LE)
  | not (a : LE)
  | ife (t a b : LE)
  | idx (a i : LE)
  | slc (a lo hi : LE)
  | len (a : LE)
  | disp (es : LEs)
  | tup (es : LEs)
  | attr (v : Nat) (f : Fld)
  | told (v : Nat)
  | comp (elt : LE) (caps : List Nat) (src : LSrc)
inductive LEs where
  | nil
  | cons (e : LE) (r : LEs)
inductive LSrc where
  | rng (e : LE)
  | lst (e : LE)
end
inductive LTg where
  | one (v : Nat)
  | many (vs : List Nat)
inductive LT where
  | name (v : Nat)
  | sub (v : Nat) (i : LE)
  | attr (v : Nat) (f : Fld)
mutual
inductive LS where
  | asg (v : Nat) (e : LE)
  | newl (v : Nat) (e : LE)
  | asgT (rev : Bool) (ts : List LT) (es : LEs)
  | sub (v : Nat) (i e : LE)
  | step (v m : Nat)
  | ev (v : Nat) (e : LE) (m6 m7 m0 : Nat)
  | mv (v w : Nat)
  | setAt (v : Nat) (f : Fld) (e : LE)
  | mk (v mv : Nat) (e : LE)
  | ite (t : LE) (a b : LSs)
  | for (tg : LTg) (src : LSrc) (b : LSs)
  | forE (vs : List Nat) (e : LE) (b : LSs)
  | brk
  | ret (e : LE)
  | slp (v : Nat) (lo hi e : LE)
inductive LSs where
  | nil
  | cons (s : LS) (r : LSs)
end
noncomputable def lim : Nat := 2 ^ 20

noncomputable def LOp.ev : LOp → Int → Int → Option Int
  | .add, a, b => some (a + b)
  | .sub, a, b => some (a - b)
  | .mul, a, b => if a.natAbs < 2 ^ 63 ∨ b.natAbs < 2 ^ 63 then some (a * b) else Option.none
  | .fdiv, a, b => if b ≠ 0 ∧ b.natAbs < 1073741824 then some (a.fdiv b) else Option.none
  | .mod, a, b => if b ≠ 0 then some (a.fmod b) else Option.none
  | .pow, a, b => if 0 ≤ b ∧ b ≤ 64 ∧ a.natAbs < 2 ^ 64 then some (a ^ b.toNat) else Option.none
section
variable {α β : Type}
noncomputable def mapO (f : α → Option β) : List α → Option (List β)
  | [] => some []
  | a :: l => (f a).bind fun b => (mapO f l).map fun r => b :: r
noncomputable def alt (o : Option α) (f : α → Option β) (g : Option β) : Option β := match o with
  | some a => f a
  | Option.none => g
theorem alt_of {o : Option α} {f : α → Option β} {g : Option β} {r : β} (h : alt o f g = some r) : (∃ a, o = some a ∧ f a = some r) ∨ g = some r := by
  cases o with
  | none => exact .inr h
  | some a => exact .inl ⟨a, rfl, h⟩
end
noncomputable def LV.int? : LV → Option Int
  | .at (.int i) => some i
  | _ => Option.none
noncomputable def LV.bool? : LV → Option Bool
  | .at (.bool i) => some i
  | _ => Option.none
noncomputable def LV.at? : LV → Option At
  | .at a => some a
  | _ => Option.none
noncomputable def LV.tup? : LV → Option (List At)
  | .tup xs => some xs
  | _ => Option.none
noncomputable def LV.ints? : LV → Option (List Int)
  | .at (.ints xs) => some xs
  | _ => Option.none
noncomputable def LV.rows? : LV → Option (List (List At))
  | .rows xs => some xs
  | _ => Option.none
noncomputable def LV.lists? : LV → Option (List (List Int))
  | .lists xs => some xs
  | _ => Option.none
noncomputable def LV.own? : LV → Option (List Int)
  | .own xs => some xs
  | _ => Option.none
noncomputable def LV.ownR? : LV → Option (List (List At))
  | .ownR xs => some xs
  | _ => Option.none
noncomputable def LV.mpu? : LV → Option (M × Nat)
  | .mpu σ mv => some (σ, mv)
  | _ => Option.none
noncomputable def stable : LV → Bool
  | .own _ => false
  | .ownR _ => false
  | .mpu _ _ => false
  | _ => true
noncomputable def Ow : LV → Bool
  | .own _ => true
  | .ownR _ => true
  | _ => false
theorem LV.int?_of {x : LV} {i : Int} (h : x.int? = some i) : x = .int i := by
  cases x with
  | «at» a => cases a <;> cases h; rfl
  | _ => injection h
theorem LV.bool?_of {x : LV} {i : Bool} (h : x.bool? = some i) : x = .bool i := by
  cases x with
  | «at» a => cases a <;> cases h; rfl
  | _ => injection h
theorem LV.ints?_of {x : LV} {i : List Int} (h : x.ints? = some i) : x = .ints i := by
  cases x with
  | «at» a => cases a <;> cases h; rfl
  | _ => injection h
theorem LV.at?_of {x : LV} {i : At} (h : x.at? = some i) : x = .at i := by cases x <;> cases h; rfl
theorem LV.tup?_of {x : LV} {i : List At} (h : x.tup? = some i) : x = .tup i := by cases x <;> cases h; rfl
theorem LV.rows?_of {x : LV} {i : List (List At)} (h : x.rows? = some i) : x = .rows i := by cases x <;> cases h; rfl
theorem LV.lists?_of {x : LV} {i : List (List Int)} (h : x.lists? = some i) : x = .lists i := by cases x <;> cases h; rfl
theorem LV.own?_of {x : LV} {i : List Int} (h : x.own? = some i) : x = .own i := by cases x <;> cases h; rfl
theorem LV.mpu?_of {x : LV} {p : M × Nat} (h : x.mpu? = some p) : x = .mpu p.1 p.2 := by cases x <;> cases h; rfl
noncomputable abbrev asInt := LV.int?
noncomputable abbrev asAt := LV.at?
noncomputable abbrev asTup := LV.tup?
noncomputable abbrev asInts := LV.ints?
noncomputable def repeatL (xs : List Int) (n : Nat) : List Int := (List.replicate n xs).flatten
noncomputable def LV.rowsE? : LV → Option (List (List At))
  | .rows xs => some xs
  | .at (.ints []) => some []
  | _ => Option.none
theorem LV.rowsE?_of {x : LV} {i : List (List At)} (h : x.rowsE? = some i) : x = .rows i ∨ (x = .ints [] ∧ i = []) := by
  cases x with
  | rows xs => (injection h with h; subst h); exact .inl rfl
  | «at» a =>
    cases a with
    | «ints» l => cases l <;> cases h; exact .inr ⟨rfl, rfl⟩
    | _ => injection h
  | _ => injection h
noncomputable def orO {α : Type} (a b : Option α) : Option α := match a with
  | some x => some x
  | Option.none => b
theorem orO_of {α : Type} {a b : Option α} {r : α} (h : orO a b = some r) : a = some r ∨ b = some r := by
  cases a with
  | none => exact .inr h
  | some x => exact .inl h
noncomputable def binV (op : LOp) (x y : LV) : Option LV := alt x.int? (fun a => y.int?.bind fun b => (op.ev a b).map LV.int)
  (orO (x.ints?.bind fun xs => alt y.ints? (fun ys => if op = .add ∧ (xs ++ ys).length ≤ lim then some (.ints (xs ++ ys)) else Option.none)
    (y.int?.bind fun n => if op = .mul ∧ 0 ≤ n ∧ n ≤ lim ∧ xs.length * n.toNat ≤ lim then some (.ints (repeatL xs n.toNat)) else Option.none))
    (x.rowsE?.bind fun xs => y.rowsE?.bind fun ys => if op = .add ∧ (xs ++ ys).length ≤ lim then some (.rows (xs ++ ys)) else Option.none))
noncomputable def At.int? : At → Option Int
  | .int i => some i
  | _ => Option.none
theorem At.int?_of {x : At} {i : Int} (h : x.int? = some i) : x = .int i := by cases x <;> cases h; rfl
noncomputable def atsInts : List At → Option (List Int) := mapO At.int?
noncomputable def eqOp : COp → Bool → Option Bool
  | .eq, b => some b
  | .ne, b => some (!b)
  | _, _ => Option.none
noncomputable def cmpV (op : COp) (x y : LV) : Option Bool := alt x.int? (fun a => y.int?.map fun b => op.ev a b) (alt x.ints? (fun xs => y.ints?.bind fun ys => eqOp op (xs == ys))
  (x.tup?.bind fun xs => y.tup?.bind fun ys => (atsInts xs).bind fun a => (atsInts ys).bind fun b => eqOp op (a == b)))
noncomputable def truthL : LV → Option Bool
  | .at (.int i) => some (i != 0)
  | .at (.bool b) => some b
  | .at .none => some false
  | .at (.ints xs) => some (!xs.isEmpty)
  | _ => Option.none
noncomputable def pick {α : Type} (l : List α) (k : Int) : Option α := if 0 ≤ k then l[k.toNat]? else if 0 ≤ k + l.length then l[(k + l.length).toNat]? else Option.none
noncomputable def idxV (x y : LV) : Option LV := y.int?.bind fun k => alt x.ints? (fun xs => (pick xs k).map LV.int) (alt x.lists? (fun xs => (pick xs k).map LV.ints) (x.rows?.bind fun xs => (pick xs k).map LV.tup))
noncomputable def cutI (xs : List Int) (lo hi : Option Int) : List Int := (xs.drop (lo.elim 0 (clipAt xs.length))).take (hi.elim xs.length (clipAt xs.length) - lo.elim 0 (clipAt xs.length))
noncomputable def part : LV → Option (Option Int)
  | .at .none => some Option.none
  | .at (.int i) => some (some i)
  | _ => Option.none
noncomputable def slcV (x lo hi : LV) : Option LV := x.ints?.bind fun xs => (part lo).bind fun l => (part hi).map fun h => .ints (cutI xs l h)
noncomputable def dispV (vs : List LV) : Option LV := if vs.length ≤ lim then alt (mapO asInt vs) (fun xs => some (.ints xs)) (alt (mapO asTup vs) (fun xs => some (.rows xs)) ((mapO asInts vs).map LV.lists)) else Option.none
noncomputable abbrev LLoc := List (Option LV)
noncomputable def LLoc.at (ρ : LLoc) (v : Nat) : Option LV := (ρ[v]?).join
noncomputable def readV (ρ : LLoc) (v : Nat) : Option LV := (ρ.at v).bind fun x => cond (stable x) (some x) Option.none
noncomputable def maskL (caps : List Nat) (ρ : LLoc) : LLoc := (List.range ρ.length).map fun i => cond (caps.contains i) (readV ρ i) Option.none
noncomputable def srcItems (x : LV) : Option (List LV) := alt x.ints? (fun xs => some (xs.map LV.int)) (x.rows?.map fun xs => xs.map LV.tup)
noncomputable def rngItems (n : Int) : Option (List LV) := if -(2 ^ 40) ≤ n ∧ n ≤ lim then some ((List.range n.toNat).map fun i : Nat => LV.int (i : Int)) else Option.none

noncomputable def setL (ρ : LLoc) (v : Nat) (x : LV) : Option LLoc := if v < ρ.length then some (ρ.set v (some x)) else Option.none
noncomputable def free (ρ : LLoc) (v : Nat) : Bool := ρ.all fun o => (o.bind LV.mpu?).all fun p => !Nat.beq p.2 v
noncomputable def putV (ρ : LLoc) (v : Nat) (x : LV) : Option LLoc := cond (stable x && free ρ v) (setL ρ v x) Option.none
noncomputable def bindTs : List Nat → List At → LLoc → Option LLoc
  | [], [], ρ => some ρ
  | v :: vs, x :: xs, ρ => (putV ρ v (.at x)).bind fun ρ' => bindTs vs xs ρ'
  | _, _, _ => Option.none
noncomputable def insS (x : Int) : List Int → List Int
  | [] => [x]
  | y :: r => cond (decide (x ≤ y)) (x :: y :: r) (y :: insS x r)
noncomputable def sortS : List Int → List Int
  | [] => []
  | x :: r => insS x (sortS r)
noncomputable def toldF : List Fld := [.pc, .a, .x, .y, .sp, .p, .cyc]
section
variable (cf : Nat → List LV → Option LV)
mutual
noncomputable def evL : LE → LLoc → Option LV
  | .int i, _ => some (.int i)
  | .bool b, _ => some (.bool b)
  | .none, _ => (fun _ : Nat → List LV → Option LV => some (.at .none)) cf
  | .var v, ρ => readV ρ v
  | .own v, ρ => (ρ.at v).bind fun u => u.own?.map LV.ints
  | .bin op a b, ρ => (evL a ρ).bind fun x => (evL b ρ).bind fun y => binV op x y
  | .cmp op a b, ρ => (evL a ρ).bind fun x => (evL b ρ).bind fun y => (cmpV op x y).map LV.bool
  | .or a b, ρ => (evL a ρ).bind fun x => x.bool?.bind fun q => cond q (some (.bool true)) (evL b ρ)
  | .not a, ρ => (evL a ρ).bind fun v => (truthL v).map fun b => LV.bool (!b)
  | .ife t a b, ρ => (evL t ρ).bind fun v => (truthL v).bind fun q => cond q (evL a ρ) (evL b ρ)
  | .idx a i, ρ => (evL a ρ).bind fun x => (evL i ρ).bind fun y => idxV x y
  | .slc a lo hi, ρ => (evL a ρ).bind fun x => (evL lo ρ).bind fun l => (evL hi ρ).bind fun h => slcV x l h
  | .len a, ρ => (evL a ρ).bind fun x => x.ints?.map fun xs => LV.int xs.length
  | .disp es, ρ => (evLs es ρ).bind fun vs => dispV vs
  | .tup es, ρ => (evLs es ρ).bind fun vs => if vs.length ≤ lim then (mapO asAt vs).map LV.tup else Option.none
  | .attr v f, ρ => (ρ.at v).bind fun u => u.mpu?.bind fun p => (p.1.get f).int?.map LV.int
  | .told v, ρ => (ρ.at v).bind fun u => u.mpu?.bind fun p => (mapO (fun f => (p.1.get f).int?) toldF).map fun is => .tup (is.map At.int)
  | .comp elt caps src, ρ => (evSrc src ρ).bind fun items => (mapO asInt items).bind fun _ => (mapO (fun it => (evL elt (maskL caps ρ ++ [some it])).bind LV.int?) items).map LV.ints
noncomputable def evLs : LEs → LLoc → Option (List LV)
  | .nil, _ => some []
  | .cons e r, ρ => (evL e ρ).bind fun v => (evLs r ρ).map fun vs => v :: vs
noncomputable def evSrc : LSrc → LLoc → Option (List LV)
  | .rng e, ρ => (evL e ρ).bind fun x => x.int?.bind fun n => rngItems n
  | .lst e, ρ => (evL e ρ).bind fun v => srcItems v
end
end

inductive LFl where
  | next | brk
  | ret (v : LV)
noncomputable def LFl.turn {β : Type} (fl : LFl) (ρ : LLoc) (rest : LLoc → Option β) (out : LFl → LLoc → β) : Option β := match fl with
  | .next => rest ρ
  | .brk => some (out .next ρ)
  | .ret v => some (out (.ret v) ρ)
noncomputable def putSl (xs : List Int) (lo hi : Option Int) (ys : List Int) : List Int := xs.take (lo.elim 0 (clipAt xs.length)) ++ ys ++ xs.drop (max (lo.elim 0 (clipAt xs.length)) (hi.elim xs.length (clipAt xs.length)))
noncomputable def putOwn (ρ : LLoc) (v : Nat) (xs : List Int) : Option LLoc := cond (free ρ v) (setL ρ v (.own xs)) Option.none
noncomputable def bindTg : LTg → LV → LLoc → Option LLoc
  | .one v, x, ρ => putV ρ v x
  | .many vs, x, ρ => x.tup?.bind fun xs => bindTs vs xs ρ
noncomputable def putSub (ρ : LLoc) (v : Nat) (k x : Int) : Option LLoc := (ρ.at v).bind fun u => u.own?.bind fun xs => (putAt xs k x).bind fun ys => setL ρ v (.own ys)
noncomputable def enumItems : Nat → List Int → List LV
  | _, [] => []
  | i, x :: l => .tup [.int (i : Int), .int x] :: enumItems (i + 1) l
noncomputable def forL (bind : LV → LLoc → Option LLoc) (body : LLoc → Option (LFl × LLoc)) : List LV → LLoc → Option (LFl × LLoc)
  | [], ρ => some (.next, ρ)
  | v :: r, ρ => (bind v ρ).bind fun ρ₁ => (body ρ₁).bind fun q => q.1.turn q.2 (forL bind body r) Prod.mk
noncomputable def unsetM : M := ⟨.unset, .unset, .unset, .unset, .unset, .unset, .unset, .unset, .unset, .unset, .unset, .unset, .unset, .unset, false, false, []⟩
noncomputable def toV : LV → Option V
  | .at (.int i) => some (.int i)
  | .at .none => some .none
  | _ => Option.none
noncomputable def V.isNone : V → Bool
  | .none => true
  | _ => false
noncomputable def deep : Nat := 12
noncomputable def backL (ρ : LLoc) (v mv : Nat) (σ : M) : Option LLoc := (setL ρ mv (.own σ.mem)).bind fun ρ' => setL ρ' v (.mpu { σ with mem := [] } mv)
noncomputable def setA (ρ : LLoc) (v : Nat) (f : Fld) (n : Int) : Option LLoc := (ρ.at v).bind fun u => u.mpu?.bind fun p => (ρ.at p.2).bind fun w => w.own?.bind fun xs => (M.set { p.1 with mem := xs } f (.int n)).bind fun σ => cond (Nat.ble σ.mem.length lim) (backL ρ v p.2 σ) Option.none
noncomputable def mvL (ρ : LLoc) (v w : Nat) : Option LLoc := (ρ.at w).bind fun u => u.mpu?.bind fun p => cond (!Nat.beq v w && !Nat.beq p.2 v && free (ρ.set w Option.none) v) (setL (ρ.set w Option.none) v (.mpu p.1 p.2)) Option.none
section
variable (c : Cls) (im : Nat) (fuel : Nat) (cf : Nat → List LV → Option LV)
noncomputable def storeTs : List LV → List LT → LLoc → Option LLoc
  | [], [], ρ => some ρ
  | x :: xs, .name v :: ts, ρ => (putV ρ v x).bind fun ρ' => storeTs xs ts ρ'
  | x :: xs, .sub v i :: ts, ρ => x.int?.bind fun n => (evL cf i ρ).bind fun w => w.int?.bind fun k => (putSub ρ v k n).bind fun ρ' => storeTs xs ts ρ'
  | x :: xs, .attr v f :: ts, ρ => x.int?.bind fun n => (setA ρ v f n).bind fun ρ' => storeTs xs ts ρ'
  | _, _, _ => Option.none
noncomputable def stepL (ρ : LLoc) (v m : Nat) : Option LLoc := (ρ.at v).bind fun u => u.mpu?.bind fun p => (ρ.at p.2).bind fun w => w.own?.bind fun xs => (callM c deep m [] { p.1 with mem := xs }).bind fun r =>
  cond (Nat.ble r.2.mem.length lim) (backL ρ v p.2 r.2) Option.none
noncomputable def mkL (ρ : LLoc) (v mv : Nat) (pc : LV) : Option LLoc := (ρ.at mv).bind fun w => w.own?.bind fun xs => (toV pc).bind fun p => (callM c deep im [.memr, p] { unsetM with mem := xs }).bind fun r =>
  cond (r.1.isNone && free ρ v && !Nat.beq v mv && Nat.ble r.2.mem.length lim) (backL ρ v mv r.2) Option.none
mutual
noncomputable def exL : LS → LLoc → Option (LFl × LLoc)
  | .asg v e, ρ => (evL cf e ρ).bind fun x => (putV ρ v x).map fun ρ' => (.next, ρ')
  | .newl v e, ρ => (evL cf e ρ).bind fun x => x.ints?.bind fun xs => cond (free ρ v) ((setL ρ v (.own xs)).map fun ρ' => (.next, ρ')) Option.none
  | .asgT rev ts es, ρ => (evLs cf es ρ).bind fun vs => (cond rev (storeTs cf vs.reverse ts.reverse ρ) (storeTs cf vs ts ρ)).map fun ρ' => (.next, ρ')
  | .sub v i e, ρ => (evL cf e ρ).bind fun u => u.int?.bind fun x => (evL cf i ρ).bind fun w => w.int?.bind fun k => (putSub ρ v k x).map fun ρ' => (.next, ρ')
  | .step v m, ρ => (stepL c ρ v m).map fun ρ' => (.next, ρ')
  | .ev v e m6 m7 m0, ρ => (evL cf e ρ).bind fun x => x.int?.bind fun i => (stepL c ρ v (cond (i == 6) m6 (cond (i == 7) m7 m0))).map fun ρ' => (.next, ρ')
  | .mv v w, ρ => (mvL ρ v w).map fun ρ' => (.next, ρ')
  | .setAt v f e, ρ => (evL cf e ρ).bind fun u => u.int?.bind fun n => (setA ρ v f n).map fun ρ' => (.next, ρ')
  | .mk v mv e, ρ => (evL cf e ρ).bind fun x => (mkL c im ρ v mv x).map fun ρ' => (.next, ρ')
  | .ite t a b, ρ => (evL cf t ρ).bind fun v => (truthL v).bind fun q => cond q (exLs a ρ) (exLs b ρ)
  | .for tg src b, ρ => (evSrc cf src ρ).bind fun items => forL (bindTg tg) (fun ρ => exLs b ρ) items ρ
  | .forE vs e b, ρ => (evL cf e ρ).bind fun v => v.ints?.bind fun xs => forL (bindTg (.many vs)) (fun ρ => exLs b ρ) (enumItems 0 xs) ρ
  | .brk, ρ => (fun _ : Nat => some (LFl.brk, ρ)) fuel
  | .ret e, ρ => (evL cf e ρ).map fun x => (.ret x, ρ)
  | .slp v lo hi e, ρ => (evL cf e ρ).bind fun x => x.ints?.bind fun ys => (evL cf lo ρ).bind fun l => (evL cf hi ρ).bind fun h => (part l).bind fun pl => (part h).bind fun ph => (ρ.at v).bind fun u => u.own?.bind fun xs => cond (Nat.ble (xs.length + ys.length) lim) ((setL ρ v (.own (putSl xs pl ph ys))).map fun ρ' => (.next, ρ')) Option.none
noncomputable def exLs : LSs → LLoc → Option (LFl × LLoc)
  | .nil, ρ => some (.next, ρ)
  | .cons s r, ρ => (exL s ρ).bind fun q => match q.1 with
    | .next => exLs r q.2
    | .brk => some (.brk, q.2)
    | .ret v => some (.ret v, q.2)
end
end
structure FnD where
  nm : Str
  np : Nat
  vars : List Str
  body : LSs
noncomputable def LFl.out : LFl → Option LV
  | .next => some (.at .none)
  | .brk => Option.none
  | .ret v => cond (stable v) (some v) Option.none
noncomputable def callL (c : Cls) (im fuel : Nat) (F : List FnD) : Nat → Nat → List LV → Option LV
  | 0, _, _ => Option.none
  | d + 1, f, args => (F[f]?).bind fun fd => if args.length = fd.np ∧ args.all stable = true then (exLs c im fuel (callL c im fuel F d) fd.body (args.map some ++ List.replicate (fd.vars.length - fd.np) Option.none)).bind fun r => r.1.out else Option.none
noncomputable def LOp.op : LOp → Operator
  | .add => .Add | .sub => .Sub | .mul => .Mult | .fdiv => .FloorDiv | .mod => .Mod | .pow => .Pow
noncomputable def plainL : PySem.Expr → Bool
  | .Name .. => true | .Attribute .. => true | .Call .. => true | .BinOp .. => true | .Subscript .. => true | .UnaryOp .. => true | .Constant (.int _) _ _ => true | .Constant (.bool _) _ _ => true | .Constant .none _ _ => true
  | .List .. => true | .Tuple .. => true | .IfExp .. => true | .ListComp .. => true | .Compare .. => true
  | _ => false
noncomputable def notComp : PySem.Expr → Bool
  | .ListComp .. => false | .SetComp .. => false | .DictComp .. => false
  | _ => true
structure LC where
  names : List (Str × NameKind)
  vars : List Str
noncomputable def LC.isVar (k : LC) (v : Nat) (n : Str) : Bool := k.vars[v]? == some n
noncomputable def LC.isGlob (k : LC) (n : Str) : Bool := k.names.lookup n == some .globalImplicit
noncomputable def compSc (k : LC) (caps : List Nat) (x : Str) (sc : Scope) : Bool :=
  sc.kind == .function && (x != ("__debug__" : Str)) && sc.names.lookup x == some .local && (sc.names.all fun y => match y.2 with
    | .cell => false
    | .local => sc.names.lookup y.1 == some .local
    | .free => k.names.lookup y.1 == some .cell
    | _ => true) && caps.all fun i => match k.vars[i]? with
      | some n => n != x && sc.names.lookup n == some .free && k.names.lookup n == some .cell
      | Option.none => false
noncomputable def stb : LE → Bool
  | .own _ => false
  | .ife _ a b => stb a && stb b
  | .idx (.own _) _ => true
  | .idx a _ => stb a
  | .disp es => stbs es
  | .tup es => stbs es
  | .bin _ a b => stb a && stb b
  | _ => true
where stbs : LEs → Bool
  | .nil => true
  | .cons e r => stb e && stbs r
noncomputable def iterOk : PySem.Expr → Bool
  | .Name .. => true | .Subscript .. => true | .List .. => true
  | _ => false
noncomputable def isNoneE : LE → Bool
  | .none => true
  | _ => false
noncomputable def trTgs (k : LC) : List Nat → List PySem.Expr → Bool
  | [], l => l.isEmpty
  | v :: vs, l => o_cons l fun x l => o_Name x fun n _ => k.isVar v n && trTgs k vs l
noncomputable def compScT (tg : List Str) (sc : Scope) : Bool := sc.kind == .function && tg.all (fun n => !(n == ("__debug__" : Str)) && sc.names.lookup n == some .local) && decide tg.Nodup && sc.names.all (fun y => y.2 != .cell && y.2 != .free && (y.2 != .local || sc.names.lookup y.1 == some .local))
section
variable (c : Cls) (F : List FnD)
mutual
noncomputable def trL (k : LC) : LE → PySem.Expr → Bool
  | .int i, x₀ => o_Constant x₀ fun z1 z2 z3 => o_int z1 fun j => i == j
  | .bool b, x₀ => o_Constant x₀ fun z1 z2 z3 => o_bool z1 fun d => b == d
  | .none, x₀ => o_Constant x₀ fun z1 z2 z3 => o_none z1 ((fun _ : List FnD => true) F)
  | .var v, x₀ => o_Name x₀ fun n z1 => k.isVar v n
  | .own v, x₀ => o_Name x₀ fun n z1 => k.isVar v n
  | .bin op a b, x₀ => o_BinOp x₀ fun l o r z1 => o == op.op && trL k a l && trL k b r
  | .cmp op a b, x₀ => o_Compare x₀ fun l z1 z2 z3 => o_cons z1 fun o z4 => o_nil z4 (o_cons z2 fun r z5 => o_nil z5 (o == op.op && plainL r && trL k a l && trL k b r))
  | .or a b, x₀ => o_BoolOp x₀ fun o z1 z2 => o_cons z1 fun l z3 => o_cons z3 fun r z4 => o_nil z4 (o == .Or && stb b && trL k a l && trL k b r)
  | .not a, x₀ => o_UnaryOp x₀ fun o e z1 => o == .Not && trL k a e
  | .ife t a b, x₀ => o_IfExp x₀ fun x l r z1 => trL k t x && trL k a l && trL k b r
  | .idx a i, x₀ => o_Subscript x₀ fun l e z1 => plainL e && trL k a l && trL k i e
  | .slc a lo hi, x₀ => o_Subscript x₀ fun l z1 z2 => o_Slice z1 fun x y st z3 => st.isNone && trL k a l && (match x with | Option.none => isNoneE lo | some x => trL k lo x) && (match y with | Option.none => isNoneE hi | some y => trL k hi y)
  | .len a, x₀ => o_Call x₀ fun z1 z2 z3 z4 => o_Name z1 fun n z5 => o_cons z2 fun e z6 => o_nil z6 (o_nil z3 (n == ("len" : Str) && k.isGlob n && plainL e && trL k a e))
  | .disp es, x₀ => o_List x₀ fun l z1 => trLs k es l
  | .tup es, x₀ => o_Tuple x₀ fun l z1 z2 => trLs k es l
  | .attr v f, x₀ => o_Attribute x₀ fun z1 a z2 => o_Name z1 fun n z3 => k.isVar v n && f.nm == a
  | .told v, x₀ => o_Call x₀ fun z1 l z2 z3 => o_Name z1 fun n z4 => o_cons l fun y z5 => o_nil z5 (o_Name y fun w z6 => o_nil z2 (n == ("_law_told" : Str) && k.isGlob n && k.isVar v w))
  | .comp elt caps src, x₀ => o_ListComp x₀ fun e z1 sc z2 => o_cons z1 fun z3 z4 => o_G z3 fun z5 it ifs as => o_Name z5 fun x z6 => o_nil z4 (ifs.isEmpty && as == 0 && compSc k caps x sc && trSrc k src it && trL ⟨sc.names, k.vars ++ [x]⟩ elt e)
noncomputable def trLs (k : LC) : LEs → List PySem.Expr → Bool
  | .nil, [] => true
  | .cons e r, x :: l => plainL x && trL k e x && trLs k r l
  | _, _ => false
noncomputable def trSrc (k : LC) : LSrc → PySem.Expr → Bool
  | .rng e, x₀ => o_Call x₀ fun z1 l kw z2 => o_Name z1 fun n z3 => o_cons l fun x z4 => o_nil z4 (o_nil kw (n == ("range" : Str) && k.isGlob n && plainL x && trL k e x))
  | .lst e, x => iterOk x && stb e && trL k e x
end
noncomputable def freshE : LE → Bool
  | .bin _ _ _ => true
  | .slc _ _ _ => true
  | .disp _ => true
  | _ => false
noncomputable def trTg (k : LC) : LTg → PySem.Expr → Bool
  | .one v, x => o_Name x fun n _ => k.isVar v n
  | .many vs, x => o_Tuple x fun l _ _ => trTgs k vs l && Nat.blt 0 vs.length
noncomputable def trT (k : LC) (x : PySem.Expr) : LT → Bool
  | .name v => o_Name x fun n _ => k.isVar v n
  | .sub v i => o_Subscript x fun b e _ => o_Name b fun n _ => k.isVar v n && plainL e && trL F k i e
  | .attr v f => o_Attribute x fun b a _ => o_Name b fun n _ => k.isVar v n && f.nm == a
noncomputable def trTs (k : LC) : List LT → List PySem.Expr → Bool
  | [], l => l.isEmpty
  | t :: ts, l => o_cons l fun x l => trT F k x t && trTs k ts l
noncomputable def backwards (k : LC) (ts : List PySem.Expr) (vs : List PySem.Expr) : Option Bool :=
  match !(ts.length == 2 || ts.length == 3) || vs.length != ts.length with
  | true => some false
  | false => match vs.any fun | .Starred .. => true | _ => false with
    | true => Option.none
    | false =>
      let line := (ts.head?.map (·.pos.line)).getD 0
      let names := ts.filterMap fun
        | .Name id pos => if k.names.lookup id == some .local && pos.line == line then some id else Option.none
        | _ => Option.none
      match names.length != ts.length || names.eraseDups.length != names.length with
      | true => some false
      | false => match vs.all (foldedForSure 8) with
        | true => some false
        | false => match vs.all (constantsAlone 8) with
          | true => Option.none
          | false => some true
noncomputable def compE : LE → Bool
  | .comp _ _ _ => true
  | _ => false
noncomputable def swapOk (n : Str) (q : Pos) : PySem.Expr → Bool
  | .ListComp _ _ sc xp => q.line == xp.line && !(sc.names.any fun y => y.1 == n && (y.2 == .local || y.2 == .cell))
  | _ => false
noncomputable def isCall : PySem.Expr → Bool
  | .Call .. => true
  | _ => false
mutual
noncomputable def trLS (k : LC) : LS → Stmt → Bool
  | .asg v e, x₀ => o_Assign x₀ fun z1 x z2 => o_cons z1 fun z3 z4 => o_Name z3 fun n z5 => o_nil z4 (k.isVar v n && notComp x && stb e && trL F k e x)
  | .newl v e, x₀ => o_Assign x₀ fun z1 x z2 => o_cons z1 fun z3 z4 => o_Name z3 fun n z5 => o_nil z4 (k.isVar v n && notComp x && freshE e && trL F k e x)
  | .asgT rev ts es, x₀ => o_Assign x₀ fun z1 z2 z3 => o_cons z1 fun z4 z5 => o_Tuple z4 fun l z6 z7 => o_nil z5 (o_Tuple z2 fun r z8 z9 => trTs F k ts l && stb.stbs es && trLs F k es r && Nat.ble ts.length 1000 && backwards k l r == some rev)
  | .sub v i e, x₀ => o_Assign x₀ fun z1 x z2 => o_cons z1 fun z3 z4 => o_Subscript z3 fun z5 y z6 => o_Name z5 fun n z7 => o_nil z4 (k.isVar v n && plainL y && notComp x && trL F k i y && trL F k e x)
  | .mv v w, x₀ => o_Assign x₀ fun z1 x z2 => o_cons z1 fun z3 z4 => o_Name z3 fun n z5 => o_nil z4 (o_Name x fun n2 z6 => k.isVar v n && k.isVar w n2)
  | .setAt v f e, x₀ => o_Assign x₀ fun z1 x z2 => o_cons z1 fun z3 z4 => o_Attribute z3 fun z5 a z6 => o_Name z5 fun n z7 => o_nil z4 (k.isVar v n && f.nm == a && notComp x && trL F k e x)
  | .step v m, x₀ => o_Expr x₀ fun z1 z2 => o_Call z1 fun z3 z4 z5 p => o_Attribute z3 fun z6 a ap => o_Name z6 fun n z7 => o_nil z4 (o_nil z5 (k.isVar v n && isMeth c m a && ap.endLine == p.line))
  | .ev v e m6 m7 m0, x₀ => o_Expr x₀ fun z1 z2 => o_Call z1 fun z3 l z4 z5 => o_Name z3 fun n z6 => o_cons l fun y l => o_Name y fun w z7 => o_cons l fun x l => o_nil l (o_nil z4 (n == ("_law_event" : Str) && k.isGlob n && k.isVar v w && isMeth c m6 "irq" && isMeth c m7 "nmi" && isMeth c m0 "step" && plainL x && trL F k e x))
  | .mk v mv e, x₀ => o_Assign x₀ fun z1 z2 z3 => o_cons z1 fun z4 z5 => o_Name z4 fun n z6 => o_nil z5 (o_Call z2 fun z7 z8 z9 z10 => o_Name z7 fun f z11 => o_nil z8 (o_cons z9 fun z12 z13 => o_K z12 fun k1 z14 z15 => o_Name z14 fun m z16 => o_cons z13 fun z17 z18 => o_K z17 fun k2 x z19 => o_nil z18 (k.isVar v n && f == ("MPU" : Str) && k.isGlob f && k1 == some ("memory" : Str) && k2 == some ("pc" : Str) && k.isVar mv m && plainL x && trL F k e x)))
  | .ite t a b, x₀ => o_If x₀ fun x l r z1 => trL F k t x && trLSs k a l && trLSs k b r
  | .for tg src b, x₀ => o_For x₀ fun t it l o z1 => o.isEmpty && trTg k tg t && trSrc F k src it && trLSs k b l
  | .forE vs e b, x₀ => o_For x₀ fun t it l o z1 => o.isEmpty && trTg k (.many vs) t && o_Call it (fun f a kw p => o_Name f fun n z2 => o_cons a fun x r => o_nil r (o_nil kw (n == ("enumerate" : Str) && k.isGlob n && plainL x && stb e && trL F k e x))) && trLSs k b l
  | .brk, x₀ => o_Break x₀ fun z1 => true
  | .ret e, x₀ => o_Return x₀ fun z1 z2 => o_some z1 fun x => stb e && trL F k e x
  | .slp v lo hi e, x₀ => o_Assign x₀ fun z1 x z2 => o_cons z1 fun z3 z4 => o_Subscript z3 fun z5 y z6 => o_Name z5 fun n z7 => o_Slice y fun a b st z8 => o_nil z4 (k.isVar v n && st.isNone && notComp x && stb e && (match a with | Option.none => isNoneE lo | some a => trL F k lo a) && (match b with | Option.none => isNoneE hi | some b => trL F k hi b) && trL F k e x)
noncomputable def trLSs (k : LC) : LSs → List Stmt → Bool
  | .nil, [] => true
  | .cons s r, x :: l => trLS k s x && trLSs k r l
  | _, _ => false
end
end
section
variable {c : Cls} {F : List FnD} {k : LC}
theorem inv_trL_int {K : Prop} {i : Int} {x₀ : PySem.Expr} (h : trL F k (.int i) x₀ = true) (kk : ∀ j y1 y2, x₀ = (.Constant (.int j) y1 y2) → (i == j) = true → K) : K := by
  revert kk
  apply o_Constant_elim h; intro z1 z2 z3 h
  apply o_int_elim h; intro j h
  exact fun kk => kk _ _ _ rfl h
theorem inv_trL_bool {K : Prop} {b : Bool} {x₀ : PySem.Expr} (h : trL F k (.bool b) x₀ = true) (kk : ∀ d y1 y2, x₀ = (.Constant (.bool d) y1 y2) → (b == d) = true → K) : K := by
  revert kk
  apply o_Constant_elim h; intro z1 z2 z3 h
  apply o_bool_elim h; intro d h
  exact fun kk => kk _ _ _ rfl h
theorem inv_trL_none {K : Prop}  {x₀ : PySem.Expr} (h : trL F k .none x₀ = true) (kk : ∀ y1 y2, x₀ = (.Constant (.none) y1 y2) → (true) = true → K) : K := by
  revert kk
  apply o_Constant_elim h; intro z1 z2 z3 h
  apply o_none_elim h; intro h
  exact fun kk => kk _ _ rfl h
theorem inv_trL_var {K : Prop} {v : Nat} {x₀ : PySem.Expr} (h : trL F k (.var v) x₀ = true) (kk : ∀ n y1, x₀ = (.Name n y1) → (k.isVar v n) = true → K) : K := by
  revert kk
  apply o_Name_elim h; intro n z1 h
  exact fun kk => kk _ _ rfl h
theorem inv_trL_own {K : Prop} {v : Nat} {x₀ : PySem.Expr} (h : trL F k (.own v) x₀ = true) (kk : ∀ n y1, x₀ = (.Name n y1) → (k.isVar v n) = true → K) : K := by
  revert kk
  apply o_Name_elim h; intro n z1 h
  exact fun kk => kk _ _ rfl h
theorem inv_trL_bin {K : Prop} {op : LOp} {a : LE} {b : LE} {x₀ : PySem.Expr} (h : trL F k (.bin op a b) x₀ = true) (kk : ∀ l o r y1, x₀ = (.BinOp l o r y1) → (o == op.op && trL F k a l && trL F k b r) = true → K) : K := by
  revert kk
  apply o_BinOp_elim h; intro l o r z1 h
  exact fun kk => kk _ _ _ _ rfl h
theorem inv_trL_cmp {K : Prop} {op : COp} {a : LE} {b : LE} {x₀ : PySem.Expr} (h : trL F k (.cmp op a b) x₀ = true) (kk : ∀ l o r y1, x₀ = (.Compare l (o :: []) (r :: []) y1) → (o == op.op && plainL r && trL F k a l && trL F k b r) = true → K) : K := by
  revert kk
  apply o_Compare_elim h; intro l z1 z2 z3 h
  apply o_cons_elim h; intro o z4 h
  apply o_nil_elim h; intro h
  apply o_cons_elim h; intro r z5 h
  apply o_nil_elim h; intro h
  exact fun kk => kk _ _ _ _ rfl h
theorem inv_trL_or {K : Prop} {a : LE} {b : LE} {x₀ : PySem.Expr} (h : trL F k (.or a b) x₀ = true) (kk : ∀ o l r y1, x₀ = (.BoolOp o (l :: (r :: [])) y1) → (o == .Or && stb b && trL F k a l && trL F k b r) = true → K) : K := by
  revert kk
  apply o_BoolOp_elim h; intro o z1 z2 h
  apply o_cons_elim h; intro l z3 h
  apply o_cons_elim h; intro r z4 h
  apply o_nil_elim h; intro h
  exact fun kk => kk _ _ _ _ rfl h
theorem inv_trL_not {K : Prop} {a : LE} {x₀ : PySem.Expr} (h : trL F k (.not a) x₀ = true) (kk : ∀ o e y1, x₀ = (.UnaryOp o e y1) → (o == .Not && trL F k a e) = true → K) : K := by
  revert kk
  apply o_UnaryOp_elim h; intro o e z1 h
  exact fun kk => kk _ _ _ rfl h
theorem inv_trL_ife {K : Prop} {t : LE} {a : LE} {b : LE} {x₀ : PySem.Expr} (h : trL F k (.ife t a b) x₀ = true) (kk : ∀ x l r y1, x₀ = (.IfExp x l r y1) → (trL F k t x && trL F k a l && trL F k b r) = true → K) : K := by
  revert kk
  apply o_IfExp_elim h; intro x l r z1 h
  exact fun kk => kk _ _ _ _ rfl h
theorem inv_trL_idx {K : Prop} {a : LE} {i : LE} {x₀ : PySem.Expr} (h : trL F k (.idx a i) x₀ = true) (kk : ∀ l e y1, x₀ = (.Subscript l e y1) → (plainL e && trL F k a l && trL F k i e) = true → K) : K := by
  revert kk
  apply o_Subscript_elim h; intro l e z1 h
  exact fun kk => kk _ _ _ rfl h
theorem inv_trL_slc {K : Prop} {a : LE} {lo : LE} {hi : LE} {x₀ : PySem.Expr} (h : trL F k (.slc a lo hi) x₀ = true) (kk : ∀ l x y st y1 y2, x₀ = (.Subscript l (.Slice x y st y1) y2) → (st.isNone && trL F k a l && (match x with | Option.none => isNoneE lo | some x => trL F k lo x) && (match y with | Option.none => isNoneE hi | some y => trL F k hi y)) = true → K) : K := by
  revert kk
  apply o_Subscript_elim h; intro l z1 z2 h
  apply o_Slice_elim h; intro x y st z3 h
  exact fun kk => kk _ _ _ _ _ _ rfl h
theorem inv_trL_len {K : Prop} {a : LE} {x₀ : PySem.Expr} (h : trL F k (.len a) x₀ = true) (kk : ∀ n y1 e y2, x₀ = (.Call (.Name n y1) (e :: []) [] y2) → (n == ("len" : Str) && k.isGlob n && plainL e && trL F k a e) = true → K) : K := by
  revert kk
  apply o_Call_elim h; intro z1 z2 z3 z4 h
  apply o_Name_elim h; intro n z5 h
  apply o_cons_elim h; intro e z6 h
  apply o_nil_elim h; intro h
  apply o_nil_elim h; intro h
  exact fun kk => kk _ _ _ _ rfl h
theorem inv_trL_disp {K : Prop} {es : LEs} {x₀ : PySem.Expr} (h : trL F k (.disp es) x₀ = true) (kk : ∀ l y1, x₀ = (.List l y1) → (trLs F k es l) = true → K) : K := by
  revert kk
  apply o_List_elim h; intro l z1 h
  exact fun kk => kk _ _ rfl h
theorem inv_trL_tup {K : Prop} {es : LEs} {x₀ : PySem.Expr} (h : trL F k (.tup es) x₀ = true) (kk : ∀ l y1 y2, x₀ = (.Tuple l y1 y2) → (trLs F k es l) = true → K) : K := by
  revert kk
  apply o_Tuple_elim h; intro l z1 z2 h
  exact fun kk => kk _ _ _ rfl h
theorem inv_trL_attr {K : Prop} {v : Nat} {f : Fld} {x₀ : PySem.Expr} (h : trL F k (.attr v f) x₀ = true) (kk : ∀ n y1 a y2, x₀ = (.Attribute (.Name n y1) a y2) → (k.isVar v n && f.nm == a) = true → K) : K := by
  revert kk
  apply o_Attribute_elim h; intro z1 a z2 h
  apply o_Name_elim h; intro n z3 h
  exact fun kk => kk _ _ _ _ rfl h
theorem inv_trL_told {K : Prop} {v : Nat} {x₀ : PySem.Expr} (h : trL F k (.told v) x₀ = true) (kk : ∀ n y1 w y3 y2, x₀ = (.Call (.Name n y1) (.Name w y3 :: []) [] y2) → (n == ("_law_told" : Str) && k.isGlob n && k.isVar v w) = true → K) : K := by
  revert kk
  apply o_Call_elim h; intro z1 l z2 z3 h
  apply o_Name_elim h; intro n z4 h
  apply o_cons_elim h; intro y z5 h
  apply o_nil_elim h; intro h
  apply o_Name_elim h; intro w z6 h
  apply o_nil_elim h; intro h
  exact fun kk => kk _ _ _ _ _ rfl h
theorem inv_trL_comp {K : Prop} {elt : LE} {caps : List Nat} {src : LSrc} {x₀ : PySem.Expr} (h : trL F k (.comp elt caps src) x₀ = true) (kk : ∀ e x y1 it ifs as sc y2, x₀ = (.ListComp e (⟨(.Name x y1), it, ifs, as⟩ :: []) sc y2) → (ifs.isEmpty && as == 0 && compSc k caps x sc && trSrc F k src it && trL F ⟨sc.names, k.vars ++ [x]⟩ elt e) = true → K) : K := by
  revert kk
  apply o_ListComp_elim h; intro e z1 sc z2 h
  apply o_cons_elim h; intro z3 z4 h
  apply o_G_elim h; intro z5 it ifs as h
  apply o_Name_elim h; intro x z6 h
  apply o_nil_elim h; intro h
  exact fun kk => kk _ _ _ _ _ _ _ _ rfl h
theorem inv_trLS_asg {K : Prop} {v : Nat} {e : LE} {x₀ : Stmt} (h : trLS c F k (.asg v e) x₀ = true) (kk : ∀ n y1 x y2, x₀ = (.Assign ((.Name n y1) :: []) x y2) → (k.isVar v n && notComp x && stb e && trL F k e x) = true → K) : K := by
  revert kk
  apply o_Assign_elim h; intro z1 x z2 h
  apply o_cons_elim h; intro z3 z4 h
  apply o_Name_elim h; intro n z5 h
  apply o_nil_elim h; intro h
  exact fun kk => kk _ _ _ _ rfl h
theorem inv_trLS_newl {K : Prop} {v : Nat} {e : LE} {x₀ : Stmt} (h : trLS c F k (.newl v e) x₀ = true) (kk : ∀ n y1 x y2, x₀ = (.Assign ((.Name n y1) :: []) x y2) → (k.isVar v n && notComp x && freshE e && trL F k e x) = true → K) : K := by
  revert kk
  apply o_Assign_elim h; intro z1 x z2 h
  apply o_cons_elim h; intro z3 z4 h
  apply o_Name_elim h; intro n z5 h
  apply o_nil_elim h; intro h
  exact fun kk => kk _ _ _ _ rfl h
theorem inv_trLS_asgT {K : Prop} {rev : Bool} {ts : List LT} {es : LEs} {x₀ : Stmt} (h : trLS c F k (.asgT rev ts es) x₀ = true) (kk : ∀ l y1 y2 r y3 y4 y5, x₀ = (.Assign ((.Tuple l y1 y2) :: []) (.Tuple r y3 y4) y5) → (trTs F k ts l && stb.stbs es && trLs F k es r && Nat.ble ts.length 1000 && backwards k l r == some rev) = true → K) : K := by
  revert kk
  apply o_Assign_elim h; intro z1 z2 z3 h
  apply o_cons_elim h; intro z4 z5 h
  apply o_Tuple_elim h; intro l z6 z7 h
  apply o_nil_elim h; intro h
  apply o_Tuple_elim h; intro r z8 z9 h
  exact fun kk => kk _ _ _ _ _ _ _ rfl h
theorem inv_trLS_sub {K : Prop} {v : Nat} {i : LE} {e : LE} {x₀ : Stmt} (h : trLS c F k (.sub v i e) x₀ = true) (kk : ∀ n y1 y y2 x y3, x₀ = (.Assign ((.Subscript (.Name n y1) y y2) :: []) x y3) → (k.isVar v n && plainL y && notComp x && trL F k i y && trL F k e x) = true → K) : K := by
  revert kk
  apply o_Assign_elim h; intro z1 x z2 h
  apply o_cons_elim h; intro z3 z4 h
  apply o_Subscript_elim h; intro z5 y z6 h
  apply o_Name_elim h; intro n z7 h
  apply o_nil_elim h; intro h
  exact fun kk => kk _ _ _ _ _ _ rfl h
theorem inv_trLS_mv {K : Prop} {v w : Nat} {x₀ : Stmt} (h : trLS c F k (.mv v w) x₀ = true) (kk : ∀ n y1 n2 y3 y2, x₀ = (.Assign ((.Name n y1) :: []) (.Name n2 y3) y2) → (k.isVar v n && k.isVar w n2) = true → K) : K := by
  revert kk
  apply o_Assign_elim h; intro z1 x z2 h
  apply o_cons_elim h; intro z3 z4 h
  apply o_Name_elim h; intro n z5 h
  apply o_nil_elim h; intro h
  apply o_Name_elim h; intro n2 z6 h
  exact fun kk => kk _ _ _ _ _ rfl h
theorem inv_trLS_setAt {K : Prop} {v : Nat} {f : Fld} {e : LE} {x₀ : Stmt} (h : trLS c F k (.setAt v f e) x₀ = true) (kk : ∀ n y1 a y2 x y3, x₀ = (.Assign ((.Attribute (.Name n y1) a y2) :: []) x y3) → (k.isVar v n && f.nm == a && notComp x && trL F k e x) = true → K) : K := by
  revert kk
  apply o_Assign_elim h; intro z1 x z2 h
  apply o_cons_elim h; intro z3 z4 h
  apply o_Attribute_elim h; intro z5 a z6 h
  apply o_Name_elim h; intro n z7 h
  apply o_nil_elim h; intro h
  exact fun kk => kk _ _ _ _ _ _ rfl h
theorem inv_trLS_step {K : Prop} {v : Nat} {m : Nat} {x₀ : Stmt} (h : trLS c F k (.step v m) x₀ = true) (kk : ∀ n y1 a ap p y2, x₀ = (.Expr (.Call (.Attribute (.Name n y1) a ap) [] [] p) y2) → (k.isVar v n && isMeth c m a && ap.endLine == p.line) = true → K) : K := by
  revert kk
  apply o_Expr_elim h; intro z1 z2 h
  apply o_Call_elim h; intro z3 z4 z5 p h
  apply o_Attribute_elim h; intro z6 a ap h
  apply o_Name_elim h; intro n z7 h
  apply o_nil_elim h; intro h
  apply o_nil_elim h; intro h
  exact fun kk => kk _ _ _ _ _ _ rfl h
theorem inv_trLS_ev {K : Prop} {v m6 m7 m0 : Nat} {e : LE} {x₀ : Stmt} (h : trLS c F k (.ev v e m6 m7 m0) x₀ = true) (kk : ∀ n y1 w y3 x y4 y2, x₀ = (.Expr (.Call (.Name n y1) (.Name w y3 :: x :: []) [] y4) y2) → (n == ("_law_event" : Str) && k.isGlob n && k.isVar v w && isMeth c m6 "irq" && isMeth c m7 "nmi" && isMeth c m0 "step" && plainL x && trL F k e x) = true → K) : K := by
  revert kk
  apply o_Expr_elim h; intro z1 z2 h
  apply o_Call_elim h; intro z3 l z4 z5 h
  apply o_Name_elim h; intro n z6 h
  apply o_cons_elim h; intro y l h
  apply o_Name_elim h; intro w z7 h
  apply o_cons_elim h; intro x l h
  apply o_nil_elim h; intro h
  apply o_nil_elim h; intro h
  exact fun kk => kk _ _ _ _ _ _ _ rfl h
theorem inv_trLS_slp {K : Prop} {v : Nat} {lo hi e : LE} {x₀ : Stmt} (h : trLS c F k (.slp v lo hi e) x₀ = true) (kk : ∀ n q a b st p1 p2 x p3, x₀ = (.Assign ((.Subscript (.Name n q) (.Slice a b st p1) p2) :: []) x p3) → (k.isVar v n && st.isNone && notComp x && stb e && (match a with | Option.none => isNoneE lo | some a => trL F k lo a) && (match b with | Option.none => isNoneE hi | some b => trL F k hi b) && trL F k e x) = true → K) : K := by
  revert kk
  apply o_Assign_elim h; intro z1 x z2 h
  apply o_cons_elim h; intro z3 z4 h
  apply o_Subscript_elim h; intro z5 y z6 h
  apply o_Name_elim h; intro n z7 h
  apply o_Slice_elim h; intro a b st z8 h
  apply o_nil_elim h; intro h
  exact fun kk => kk _ _ _ _ _ _ _ _ _ rfl h
theorem inv_trLS_mk {K : Prop} {v : Nat} {mv : Nat} {e : LE} {x₀ : Stmt} (h : trLS c F k (.mk v mv e) x₀ = true) (kk : ∀ n y1 f y2 k1 m y3 y4 k2 x y5 y6 y7, x₀ = (.Assign ((.Name n y1) :: []) (.Call (.Name f y2) [] (⟨k1, (.Name m y3), y4⟩ :: (⟨k2, x, y5⟩ :: [])) y6) y7) → (k.isVar v n && f == ("MPU" : Str) && k.isGlob f && k1 == some ("memory" : Str) && k2 == some ("pc" : Str) && k.isVar mv m && plainL x && trL F k e x) = true → K) : K := by
  revert kk
  apply o_Assign_elim h; intro z1 z2 z3 h
  apply o_cons_elim h; intro z4 z5 h
  apply o_Name_elim h; intro n z6 h
  apply o_nil_elim h; intro h
  apply o_Call_elim h; intro z7 z8 z9 z10 h
  apply o_Name_elim h; intro f z11 h
  apply o_nil_elim h; intro h
  apply o_cons_elim h; intro z12 z13 h
  apply o_K_elim h; intro k1 z14 z15 h
  apply o_Name_elim h; intro m z16 h
  apply o_cons_elim h; intro z17 z18 h
  apply o_K_elim h; intro k2 x z19 h
  apply o_nil_elim h; intro h
  exact fun kk => kk _ _ _ _ _ _ _ _ _ _ _ _ _ rfl h
theorem inv_trLS_ite {K : Prop} {t : LE} {a : LSs} {b : LSs} {x₀ : Stmt} (h : trLS c F k (.ite t a b) x₀ = true) (kk : ∀ x l r y1, x₀ = (.If x l r y1) → (trL F k t x && trLSs c F k a l && trLSs c F k b r) = true → K) : K := by
  revert kk
  apply o_If_elim h; intro x l r z1 h
  exact fun kk => kk _ _ _ _ rfl h
theorem inv_trLS_for {K : Prop} {tg : LTg} {src : LSrc} {b : LSs} {x₀ : Stmt} (h : trLS c F k (.for tg src b) x₀ = true) (kk : ∀ t it l o y1, x₀ = (.For t it l o y1) → (o.isEmpty && trTg k tg t && trSrc F k src it && trLSs c F k b l) = true → K) : K := by
  revert kk
  apply o_For_elim h; intro t it l o z1 h
  exact fun kk => kk _ _ _ _ _ rfl h
theorem inv_trLS_forE {K : Prop} {vs : List Nat} {e : LE} {b : LSs} {x₀ : Stmt} (h : trLS c F k (.forE vs e b) x₀ = true) (kk : ∀ t n q x p l y1, x₀ = (.For t (.Call (.Name n q) (x :: []) [] p) l [] y1) → trTg k (.many vs) t = true → (n == ("enumerate" : Str) && k.isGlob n && plainL x && stb e && trL F k e x) = true → trLSs c F k b l = true → K) : K := by
  revert kk
  apply o_For_elim h; intro t it l o z1 h
  refine and_el h fun h h4 => ?_
  refine and_el h fun h h3 => ?_
  refine and_el h fun h1 h2 => ?_
  cases List.isEmpty_iff.mp h1
  revert h2 h4
  apply o_Call_elim h3; intro f a kw p h3
  apply o_Name_elim h3; intro n q h3
  apply o_cons_elim h3; intro x r h3
  apply o_nil_elim h3; intro h3
  apply o_nil_elim h3; intro h3 h4 h2
  exact fun kk => kk _ _ _ _ _ _ _ rfl h2 h3 h4
theorem inv_trLS_brk {K : Prop}  {x₀ : Stmt} (h : trLS c F k .brk x₀ = true) (kk : ∀ y1, x₀ = (.Break y1) → (true) = true → K) : K := by
  revert kk
  apply o_Break_elim h; intro z1 h
  exact fun kk => kk _ rfl h
theorem inv_trLS_ret {K : Prop} {e : LE} {x₀ : Stmt} (h : trLS c F k (.ret e) x₀ = true) (kk : ∀ x y1, x₀ = (.Return (some x) y1) → (stb e && trL F k e x) = true → K) : K := by
  revert kk
  apply o_Return_elim h; intro z1 z2 h
  apply o_some_elim h; intro x h
  exact fun kk => kk _ _ rfl h
end
end Mine

end
section
open PySem PySem.W PyProof.Rows
set_option maxRecDepth 100000
set_option maxHeartbeats 1000000
set_option linter.unusedSimpArgs false
set_option linter.unusedVariables false
namespace Mine
noncomputable def plainArgs (fd : FuncData) (names : List Str) : Bool :=
  fd.params.posonlyargs.isEmpty && fd.params.vararg.isNone && fd.params.kwonlyargs.isEmpty && fd.params.kwarg.isNone && fd.defaults == .none && fd.params.args.map (·.arg) == names
theorem zip_lookup {β : Type} : ∀ {ns : List Str} {vs : List β}, vs.length = ns.length → ∀ n ∈ ns, ((ns.zip vs).lookup n).isSome = true
  | a :: ns, v :: vs, hl, n, hn => by
    rw [List.zip_cons_cons, List.lookup_cons]
    cases e : n == a with
    | true => rfl
    | false =>
      rcases List.mem_cons.mp hn with q | q
      · rw [q] at e; simp at e
      · exact zip_lookup (by simpa using hl) n q
  | _ :: _, [], hl, _, _ => by injection hl
theorem zip_filterMap {β : Type} : ∀ {ns : List Str} {vs : List β}, vs.length = ns.length → ns.Nodup → ns.filterMap (fun n => ((ns.zip vs).lookup n).map (n, ·)) = ns.zip vs := by
  have go : ∀ (pre : List (Str × β)) (ns : List Str) (vs : List β), vs.length = ns.length → (∀ x ∈ pre, x.1 ∉ ns) → ns.Nodup → ns.filterMap (fun n => ((pre ++ ns.zip vs).lookup n).map (n, ·)) = ns.zip vs := by
    intro pre ns
    induction ns generalizing pre with
    | nil => intro vs hl _ _; cases vs <;> rfl
    | cons a ns ih =>
      intro vs hl hp nd
      cases vs with
      | nil => injection hl
      | cons v vs =>
        rw [List.nodup_cons] at nd
        have hpre : pre.lookup a = none := by
          rw [List.lookup_eq_none_iff]
          intro x hx
          have := hp x hx
          rw [List.mem_cons, not_or] at this
          simp [Ne.symm this.1]
        rw [List.filterMap_cons, List.zip_cons_cons, List.lookup_append, hpre, Option.none_or, List.lookup_cons, beq_self_eq_true]
        dsimp only [Option.map_some]
        congr 1
        have := ih (pre ++ [(a, v)]) vs (by simpa using hl) (fun x hx => by
          rcases List.mem_append.mp hx with q | q
          · have := hp x q; rw [List.mem_cons, not_or] at this; exact this.2
          · rw [List.mem_singleton.mp q]; exact nd.1) nd.2
        rw [List.append_assoc, List.singleton_append] at this
        exact this
  intro ns vs hl nd
  exact go [] ns vs hl (fun x hx => nomatch hx) nd
theorem bind_plain {fd : FuncData} {names : List Str} (h : plainArgs fd names = true) (nd : names.Nodup) {vals : List Value} (hl : vals.length = names.length) : bindArgs fd ⟨vals, []⟩ = pure (names.zip vals) := by
  unfold plainArgs at h
  simp only [Bool.and_eq_true, List.isEmpty_iff, Option.isNone_iff_eq_none, beq_iff_eq] at h
  obtain ⟨⟨⟨⟨⟨h1, h2⟩, h3⟩, h4⟩, h5⟩, h6⟩ := h
  have miss : (names.take (names.length - 0)).filter (fun n => ((names.zip vals).lookup n).isNone) = [] := by
    rw [List.filter_eq_nil_iff]
    intro n hn
    have := zip_lookup hl n (List.mem_of_mem_take hn)
    cases q : (names.zip vals).lookup n with
    | none => rw [q] at this; injection this
    | some _ => simp
  have sq : seqItems? Value.none = pure none := rfl
  unfold bindArgs
  simp only [h1, h2, h3, h4, h5, h6, sq, List.map_nil, List.nil_append, List.forIn_nil, pure_bind, Option.getD_none, Array.toList_empty, List.length_nil, List.drop_nil, List.append_nil, List.zip_nil_right, Nat.zero_sub, Nat.sub_zero, hl, Nat.lt_irrefl, gt_iff_lt, decide_false, Bool.false_and, Bool.false_eq_true, if_false, List.isEmpty_nil, Bool.not_true]
  have miss' := miss
  rw [Nat.sub_zero] at miss'
  simp only [miss', List.isEmpty_nil, Bool.not_true, Bool.false_eq_true, if_false, zip_filterMap hl nd]
  try rfl
noncomputable def fn0B (fdt : FuncData) (names : List Str) : Bool := plainArgs fdt names && fdt.scope.kind == .function && !fdt.scope.isGenerator && !fdt.scope.isCoroutine && fdt.closure.isEmpty && fdt.globals == mainGlobals && fdt.builtins == builtinsNs && names.all (fun v => fdt.scope.names.lookup v == some .local) && fdt.scope.names.all (fun y => y.2 != .cell)
structure Fn0 (fdt : FuncData) (names : List Str) : Prop where
  args : plainArgs fdt names = true
  kind : fdt.scope.kind = .function
  gen : fdt.scope.isGenerator = false
  co : fdt.scope.isCoroutine = false
  clo : fdt.closure = []
  glob : fdt.globals = mainGlobals
  blt : fdt.builtins = builtinsNs
  loc : ∀ v ∈ names, fdt.scope.names.lookup v = some .local
  nc : ∀ y ∈ fdt.scope.names, y.2 ≠ .cell
theorem fn0_of {fdt : FuncData} {names : List Str} (h : fn0B fdt names = true) : Fn0 fdt names := by
  unfold fn0B at h
  simp only [Bool.and_eq_true, Bool.not_eq_true', beq_iff_eq, List.isEmpty_iff, List.all_eq_true, bne_iff_ne] at h
  obtain ⟨⟨⟨⟨⟨⟨⟨⟨h1, h2⟩, h3⟩, h4⟩, h5⟩, h6⟩, h7⟩, h8⟩, h9⟩ := h
  exact ⟨h1, h2, h3, h4, h5, h6, h7, h8, h9⟩
noncomputable def attrsB : List Fld → List PySem.Expr → Bool
  | [], l => l.isEmpty
  | f :: fs, l => o_cons l fun x l => o_Attribute x fun b a _ => o_Name b fun n _ => n == ("mpu" : Str) && f.nm == a && attrsB fs l
noncomputable def toldB (fdt : FuncData) : Bool := fn0B fdt ["mpu"] && (match fdt.body with | .stmts b => o_cons b fun s r => o_nil r (o_Return s fun e _ => o_some e fun x => o_Tuple x fun l _ _ => attrsB toldF l) | _ => false)
theorem told_of {fdt : FuncData} (h : toldB fdt = true) : Fn0 fdt ["mpu"] ∧ ∃ l q r p, fdt.body = .stmts [.Return (some (.Tuple l q r)) p] ∧ attrsB toldF l = true := by
  obtain ⟨h0, h⟩ := Bool.and_eq_true_iff.mp h
  refine ⟨fn0_of h0, ?_⟩
  split at h
  · rename_i b hb
    revert hb
    apply o_cons_elim h; intro s r h
    apply o_nil_elim h; intro h
    apply o_Return_elim h; intro e p h
    apply o_some_elim h; intro x h
    apply o_Tuple_elim h; intro l q r h hb
    exact ⟨_, _, _, _, hb, h⟩
  · injection h
noncomputable def callB (nm : Str) (s : Stmt) : Bool := o_Expr s fun z _ => o_Call z fun z3 z4 z5 p => o_Attribute z3 fun z6 a ap => o_Name z6 fun n _ => o_nil z4 (o_nil z5 (n == ("mpu" : Str) && a == nm && ap.endLine == p.line))
theorem callB_of {nm : Str} {s : Stmt} (h : callB nm s = true) : ∃ bp ap p q, s = .Expr (.Call (.Attribute (.Name "mpu" bp) nm ap) [] [] p) q ∧ ap.endLine = p.line := by
  apply o_Expr_elim h; intro z q h
  apply o_Call_elim h; intro z3 z4 z5 p h
  apply o_Attribute_elim h; intro z6 a ap h
  apply o_Name_elim h; intro n bp h
  apply o_nil_elim h; intro h
  apply o_nil_elim h; intro h
  obtain ⟨h, h3⟩ := Bool.and_eq_true_iff.mp h
  obtain ⟨h1, h2⟩ := Bool.and_eq_true_iff.mp h
  cases beq_iff_eq.mp h1
  cases beq_iff_eq.mp h2
  exact ⟨_, _, _, _, rfl, beq_iff_eq.mp h3⟩
noncomputable def one {α : Type} (f : α → Bool) (l : List α) : Bool := o_cons l fun x r => o_nil r (f x)
theorem one_of {α : Type} {f : α → Bool} {l : List α} (h : one f l = true) : ∃ x, l = [x] ∧ f x = true := by
  apply o_cons_elim h; intro x r h
  apply o_nil_elim h; intro h
  exact ⟨x, rfl, h⟩
noncomputable def kindB (F : List FnD) (k : LC) (i : Int) (f g : Stmt → Bool) (s : Stmt) : Bool := o_If s fun t l e _ => trL F k (.cmp .eq (.var 1) (.int i)) t && one f l && one g e
theorem kindB_of {F : List FnD} {k : LC} {i : Int} {f g : Stmt → Bool} {s : Stmt} (h : kindB F k i f g s = true) : ∃ t a b p, s = .If t [a] [b] p ∧ trL F k (.cmp .eq (.var 1) (.int i)) t = true ∧ f a = true ∧ g b = true := by
  apply o_If_elim h; intro t l e p h
  obtain ⟨h, h3⟩ := Bool.and_eq_true_iff.mp h
  obtain ⟨h1, h2⟩ := Bool.and_eq_true_iff.mp h
  obtain ⟨a, rfl, ha⟩ := one_of h2
  obtain ⟨b, rfl, hb⟩ := one_of h3
  exact ⟨_, _, _, _, rfl, h1, ha, hb⟩
noncomputable abbrev evK (fdt : FuncData) : LC := ⟨fdt.scope.names, ["mpu", "kind"]⟩
noncomputable def evB (F : List FnD) (fdt : FuncData) : Bool := fn0B fdt ["mpu", "kind"] && (match fdt.body with | .stmts b => one (kindB F (evK fdt) 6 (callB "irq") (kindB F (evK fdt) 7 (callB "nmi") (callB "step"))) b | _ => false)
theorem ev_of {F : List FnD} {fdt : FuncData} (h : evB F fdt = true) : Fn0 fdt ["mpu", "kind"] ∧ ∃ s, fdt.body = .stmts [s] ∧ kindB F (evK fdt) 6 (callB "irq") (kindB F (evK fdt) 7 (callB "nmi") (callB "step")) s = true := by
  obtain ⟨h0, h⟩ := Bool.and_eq_true_iff.mp h
  refine ⟨fn0_of h0, ?_⟩
  split at h
  · rename_i b hb
    obtain ⟨s, rfl, h⟩ := one_of h
    exact ⟨s, hb, h⟩
  · injection h
end Mine

end
section
open PySem PySem.W PyProof.Rows
set_option maxRecDepth 100000
namespace Mine

structure LX where
  x : Cx
  F : List FnD
  im : Nat
  fuel : Nat
  mg : Str → Option Value
  mb : Str → Option Value
  fA : Nat → Addr
noncomputable def LX.at (X : LX) (I D L : Addr) : Cx := { X.x with I := I, D := D, L := L }

noncomputable def VarAt (env : Env) (h : Heap) (n : Str) (y : Value) : Prop :=
  (env.kindOf n = some .local ∧ ∃ m, h.Ns env.locals m ∧ m n = some y) ∨ (env.kindOf n = some .cell ∧ ∃ c, env.cells.lookup n = some c ∧ h.IsCell c (some y))
theorem ns_unique {h : Heap} {a : Addr} {m m' : Str → Option Value} (x : h.Ns a m) (y : h.Ns a m') : m = m' := by
  obtain ⟨o, es, ep, e, d, _, f⟩ := x
  obtain ⟨o', es', ep', e', d', _, f'⟩ := y
  rw [e] at e'; (injection e' with e'; subst e')
  rw [d] at d'; (injection d' with d'; subst d')
  funext n; rw [← f n, f' n]
theorem VarAt.unique {env : Env} {h : Heap} {n : Str} {y y' : Value} (a : VarAt env h n y) (b : VarAt env h n y') : y = y' := by
  rcases a with ⟨k, m, hm, e⟩ | ⟨k, c, hc, hv⟩ <;> rcases b with ⟨k', m', hm', e'⟩ | ⟨k', c', hc', hv'⟩
  · rw [ns_unique hm hm'] at e; rw [e] at e'; exact Option.some.inj e'
  · rw [k] at k'; cases k'
  · rw [k] at k'; cases k'
  · rw [hc] at hc'; (injection hc' with hc'; subst hc')
    obtain ⟨o, e, d⟩ := hv; obtain ⟨o', e', d'⟩ := hv'
    rw [e] at e'; (injection e' with e'; subst e'); rw [d] at d'; cases d'; rfl

noncomputable def RA (N : Addr → Prop) (h : Heap) : At → Value → Prop
  | .int i, y => ∃ t, y = .int i t
  | .bool b, y => y = .bool b
  | .none, y => y = .none
  | .ints xs, y => ∃ a items, y = .ref a ∧ ¬ N a ∧ h.IsList a items ∧ IntsAre items.toList xs ∧ xs.length ≤ lim
noncomputable def RT (N : Addr → Prop) (h : Heap) (xs : List At) (y : Value) : Prop := ∃ a items, y = .ref a ∧ IsTup h a items ∧ Paired (RA N h) xs items.toList
noncomputable def RV (N : Addr → Prop) (h : Heap) : LV → Value → Prop
  | .at a, y => RA N h a y
  | .tup xs, y => RT N h xs y
  | .rows xs, y => ∃ a items, y = .ref a ∧ ¬ N a ∧ h.IsList a items ∧ Paired (RT N h) xs items.toList ∧ xs.length ≤ lim
  | .lists xs, y => ∃ a items, y = .ref a ∧ ¬ N a ∧ h.IsList a items ∧ Paired (fun zs => RA N h (.ints zs)) xs items.toList ∧ xs.length ≤ lim
  | .own _, _ => False
  | .ownR _, _ => False
  | .mpu _ _, _ => False
noncomputable def nn (N₀ W : Addr → Prop) : Addr → Prop := fun a => N₀ a ∨ W a
noncomputable def RVar (N₀ W : Addr → Prop) (h : Heap) : LV → Value → Prop
  | .own xs, y => ∃ a items, y = .ref a ∧ W a ∧ PlainL h a items ∧ IntsAre items.toList xs ∧ xs.length ≤ lim
  | .ownR xs, y => ∃ a items, y = .ref a ∧ W a ∧ PlainL h a items ∧ Paired (RT (nn N₀ W) h) xs items.toList ∧ xs.length ≤ lim
  | .mpu _ _, _ => True
  | v, y => RV (nn N₀ W) h v y
noncomputable abbrev NewP (h h' : Heap) (y : Value) : Prop := ∀ a, y = .ref a → h.get? a = none ∧ ∃ o, h'.get? a = some o ∧ o.dict = none
theorem plain_of {h : Heap} {a : Addr} {its : Array Value} (l : h.IsList a its) (p : ∃ o, h.get? a = some o ∧ o.dict = none) : PlainL h a its := by
  obtain ⟨o, e, c, n, d⟩ := l
  obtain ⟨o', e', dn⟩ := p
  rw [e] at e'; (injection e' with e'; subst e')
  exact ⟨o, n, e, c, dn, d⟩
noncomputable def isStore (o : Obj) : Bool := match o.data with
  | .dict .. => true
  | .cell _ => true
  | .fields _ => tabb o
  | _ => false
noncomputable def ItO (o : Obj) (vs : Array Value) : Prop := o.cls ≠ .type "method" ∧ o.cls ≠ .none ∧ ∀ q t, vs[1]? ≠ some (.str q t)
theorem TabInv.keepZ {Z : Addr → Prop} {h h' : Heap} (t : TabInv h) (k : ∀ b o, ¬ Z b → h.get? b = some o → h'.get? b = some o) (zt : ∀ b o vs, Z b → h.get? b = some o → o.data = .fields vs → o.cls ≠ .none ∧ ∀ q t, vs[1]? ≠ some (.str q t)) : TabInv h' := by
  obtain ⟨ps, e, ok, q⟩ := t
  refine ⟨ps, k _ _ (fun z => (zt _ _ _ z e rfl).1 rfl) e, ok, ?_⟩
  rcases q with q | ⟨c', q, c, oc, vs, tq, e1, e2, e3, e4⟩
  · exact .inl q
  · exact .inr ⟨c', q, c, oc, vs, tq, e1, k _ _ (fun z => (zt _ _ _ z e2 e3).2 _ _ e4) e2, e3, e4⟩
noncomputable def Evo (W : Addr → Prop) (h h' : Heap) : Prop := ∀ b o, h.get? b = some o → ¬ W b → isStore o = false → h'.get? b = some o
section
variable {N N' N₀ W : Addr → Prop} {h h' : Heap}
theorem list_store {a : Addr} {items : Array Value} (l : h.IsList a items) : ∃ o, h.get? a = some o ∧ isStore o = false ∧ o.cls = .type "list" ∧ ∃ n, o.data = .seq items n := by
  obtain ⟨o, e, c, n, d⟩ := l
  exact ⟨o, e, by unfold isStore; rw [d], c, n, d⟩
theorem list_evo {a : Addr} {items : Array Value} (l : h.IsList a items) (q : ¬ W a) (k : Evo W h h') : h'.IsList a items := by
  obtain ⟨o, e, s, r⟩ := list_store l
  exact ⟨o, k a o e q s, r⟩
noncomputable def Lists (W : Addr → Prop) (h : Heap) : Prop := ∀ a, W a → ∃ items, PlainL h a items
noncomputable def SeqK (N : Addr → Prop) (h h' : Heap) : Prop := ∀ b o a n, h.get? b = some o → o.data = .seq a n → (o.cls = .type "list" → ¬ N b) → h'.get? b = some o
theorem tup_ne_list : (Value.type "tuple") ≠ .type "list" := fun q => by injection q with z; exact absurd z (by decide)
theorem Evo.seqk (e : Evo W h h') (hN : ∀ b, W b → N b) (L : Lists W h) : SeqK N h h' := fun b o a n eo d q => e b o eo (fun w => by
  obtain ⟨its, o', _, eo', c, _⟩ := L b w
  rw [eo] at eo'; (injection eo' with eo'; subst eo')
  exact q c (hN b w)) (by unfold isStore; rw [d])
theorem SeqK.of_grow (k : ∀ b o, h.get? b = some o → h'.get? b = some o) : SeqK N h h' := fun b o _ _ e _ _ => k b o e
theorem RA.keepS {a : At} {y : Value} (r : RA N h a y) (k : SeqK N h h') : RA N h' a y := by
  cases a <;> try exact r
  obtain ⟨b, its, e, q, ⟨o, eo, c, n, d⟩, i, z⟩ := r
  exact ⟨b, its, e, q, ⟨o, k b o _ _ eo d fun _ => q, c, n, d⟩, i, z⟩
theorem RT.keepS {xs : List At} {y : Value} (r : RT N h xs y) (k : SeqK N h h') : RT N h' xs y := by
  obtain ⟨a, its, e, ⟨o, eo, c, n, d⟩, p⟩ := r
  exact ⟨a, its, e, ⟨o, k a o _ _ eo d fun q => absurd (c.symm.trans q) tup_ne_list, c, n, d⟩, p.mono fun _ _ q => q.keepS k⟩
theorem RV.keepS {v : LV} {y : Value} (r : RV N h v y) (k : SeqK N h h') : RV N h' v y := by
  cases v with
  | «at» a => exact RA.keepS r k
  | tup xs => exact RT.keepS r k
  | rows xs => obtain ⟨b, its, e, q, ⟨o, eo, c, n, d⟩, i, z⟩ := r; exact ⟨b, its, e, q, ⟨o, k b o _ _ eo d fun _ => q, c, n, d⟩, i.mono fun _ _ q => q.keepS k, z⟩
  | lists xs => obtain ⟨b, its, e, q, ⟨o, eo, c, n, d⟩, i, z⟩ := r; exact ⟨b, its, e, q, ⟨o, k b o _ _ eo d fun _ => q, c, n, d⟩, i.mono fun _ _ q => RA.keepS q k, z⟩
  | own _ => exact r
  | ownR _ => exact r
  | mpu _ _ => exact r
theorem RVar.keepS {v : LV} {y : Value} (r : RVar N₀ W h v y) (k : SeqK (nn N₀ W) h h') (ow : ∀ a its, Ow v = true → y = .ref a → W a → PlainL h a its → PlainL h' a its) : RVar N₀ W h' v y := by
  cases v with
  | own xs => obtain ⟨a, its, e, w, l, i⟩ := r; exact ⟨a, its, e, w, ow a its rfl e w l, i⟩
  | ownR xs => obtain ⟨a, its, e, w, l, p, z⟩ := r; exact ⟨a, its, e, w, ow a its rfl e w l, p.mono fun _ _ q => q.keepS k, z⟩
  | mpu _ _ => trivial
  | «at» a => exact RV.keepS (v := .at a) r k
  | tup xs => exact RV.keepS (v := .tup xs) r k
  | rows xs => exact RV.keepS (v := .rows xs) r k
  | lists xs => exact RV.keepS (v := .lists xs) r k
theorem RA.weak {a : At} {y : Value} (r : RA N h a y) (hN : ∀ b, (∃ o, h.get? b = some o) → N' b → N b) : RA N' h a y := by
  cases a <;> try exact r
  obtain ⟨b, its, e, q, l, i⟩ := r
  exact ⟨b, its, e, fun z => q (hN b (by obtain ⟨o, e, _⟩ := l; exact ⟨o, e⟩) z), l, i⟩
theorem RT.weak {xs : List At} {y : Value} (r : RT N h xs y) (hN : ∀ b, (∃ o, h.get? b = some o) → N' b → N b) : RT N' h xs y := by
  obtain ⟨a, its, e, l, p⟩ := r
  exact ⟨a, its, e, l, p.mono fun _ _ q => q.weak hN⟩
theorem RV.weak {v : LV} {y : Value} (r : RV N h v y) (hN : ∀ b, (∃ o, h.get? b = some o) → N' b → N b) : RV N' h v y := by
  have ex : ∀ {a : Addr} {its : Array Value}, h.IsList a its → ∃ o, h.get? a = some o := fun l => by obtain ⟨o, e, _⟩ := l; exact ⟨o, e⟩
  cases v with
  | «at» a => exact RA.weak r hN
  | tup xs => exact RT.weak r hN
  | rows xs => obtain ⟨b, its, e, q, l, i, z⟩ := r; exact ⟨b, its, e, fun z => q (hN b (ex l) z), l, i.mono fun _ _ q => q.weak hN, z⟩
  | lists xs => obtain ⟨b, its, e, q, l, i, z⟩ := r; exact ⟨b, its, e, fun z => q (hN b (ex l) z), l, i.mono fun _ _ q => q.weak hN, z⟩
  | own _ => exact r
  | ownR _ => exact r
  | mpu _ _ => exact r
theorem RA.keep2 {a : At} {y : Value} (r : RA N h a y) (k : SeqK N h h') (w : ∀ b, (∃ o, h.get? b = some o) → N' b → N b) : RA N' h' a y := by
  cases a <;> try exact r
  obtain ⟨b, its, e, q, ⟨o, eo, c, n, d⟩, i, z⟩ := r
  exact ⟨b, its, e, fun z => q (w b ⟨o, eo⟩ z), ⟨o, k b o _ _ eo d fun _ => q, c, n, d⟩, i, z⟩
theorem RT.keep2 {xs : List At} {y : Value} (r : RT N h xs y) (k : SeqK N h h') (w : ∀ b, (∃ o, h.get? b = some o) → N' b → N b) : RT N' h' xs y := by
  obtain ⟨a, its, e, ⟨o, eo, c, n, d⟩, p⟩ := r
  exact ⟨a, its, e, ⟨o, k a o _ _ eo d fun q => absurd (c.symm.trans q) tup_ne_list, c, n, d⟩, p.mono fun _ _ q => q.keep2 k w⟩
theorem RV.keep2 {v : LV} {y : Value} (r : RV N h v y) (k : SeqK N h h') (w : ∀ b, (∃ o, h.get? b = some o) → N' b → N b) : RV N' h' v y := by
  cases v with
  | «at» a => exact RA.keep2 r k w
  | tup xs => exact RT.keep2 r k w
  | rows xs => obtain ⟨b, its, e, q, ⟨o, eo, c, n, d⟩, i, z⟩ := r; exact ⟨b, its, e, fun z => q (w b ⟨o, eo⟩ z), ⟨o, k b o _ _ eo d fun _ => q, c, n, d⟩, i.mono fun _ _ q => q.keep2 k w, z⟩
  | lists xs => obtain ⟨b, its, e, q, ⟨o, eo, c, n, d⟩, i, z⟩ := r; exact ⟨b, its, e, fun z => q (w b ⟨o, eo⟩ z), ⟨o, k b o _ _ eo d fun _ => q, c, n, d⟩, i.mono fun _ _ q => RA.keep2 q k w, z⟩
  | own _ => exact r
  | ownR _ => exact r
  | mpu _ _ => exact r
noncomputable abbrev Grow (h h' : Heap) : Prop := ∀ b o, h.get? b = some o → h'.get? b = some o
theorem Evo.of_grow (k : Grow h h') : Evo W h h' := fun b o e _ _ => k b o e
theorem RA.grow {a : At} {y : Value} (r : RA N h a y) (k : Grow h h') : RA N h' a y := r.keepS (.of_grow k)
theorem RT.grow {xs : List At} {y : Value} (r : RT N h xs y) (k : Grow h h') : RT N h' xs y := r.keepS (.of_grow k)
theorem RV.grow {v : LV} {y : Value} (r : RV N h v y) (k : Grow h h') : RV N h' v y := r.keepS (.of_grow k)
theorem IsList.grow {a : Addr} {its : Array Value} (l : h.IsList a its) (k : Grow h h') : h'.IsList a its := by obtain ⟨o, e, r⟩ := l; exact ⟨o, k _ _ e, r⟩
theorem RVar.ow {v : LV} {y : Value} (r : RVar N₀ W h v y) (o : Ow v = true) : ∃ a its, y = .ref a ∧ W a ∧ PlainL h a its := by
  cases v with
  | own xs => obtain ⟨a, its, e, w, l, _⟩ := r; exact ⟨a, its, e, w, l⟩
  | ownR xs => obtain ⟨a, its, e, w, l, _⟩ := r; exact ⟨a, its, e, w, l⟩
  | _ => injection o
theorem RVar.grow {v : LV} {y : Value} (r : RVar N₀ W h v y) (k : Grow h h') : RVar N₀ W h' v y := r.keepS (.of_grow k) fun _ _ _ _ _ l => l.keeps k
theorem VarAt.grow {env : Env} {n : Str} {y : Value} (v : VarAt env h n y) (k : Grow h h') : VarAt env h' n y := by
  rcases v with ⟨a, m, hm, e⟩ | ⟨a, c, hc, hv⟩
  · exact .inl ⟨a, m, hm.keeps k, e⟩
  · exact .inr ⟨a, c, hc, hv.keeps k⟩
end
structure Mch (X : LX) (hs : Addr → Option Obj) (env : Env) (vars : List Str) (ρ : LLoc) (h : Heap) (I D L : Addr) (xs : List Int) (nm : Str) (σ : M) (mv : Nat) : Prop where
  own : ρ.at mv = some (.own xs)
  nam : vars[mv]? = some nm
  vL : VarAt env h nm (.ref L)
  mr : Mr (X.at I D L) { σ with mem := xs } h
  hD : hs D = none
  d0 : X.x.h₀.get? D = none
  l0 : X.x.h₀.get? L = none
  Dl : D ≠ env.locals
structure Rd (X : LX) (hs : Addr → Option Obj) (N₀ : Addr → Prop) (env : Env) (vars : List Str) (ρ : LLoc) (W : Addr → Prop) (h : Heap) : Prop where
  base : ∀ b o, X.x.h₀.get? b = some o → h.get? b = some o
  lists : Lists (nn N₀ W) h
  var : ∀ i n v, vars[i]? = some n → ρ.at i = some v → ∃ y, VarAt env h n y ∧ RVar N₀ W h v y
  mach : ∀ i n σ mv, vars[i]? = some n → ρ.at i = some (.mpu σ mv) → ∃ I D L xs nm, VarAt env h n (.ref I) ∧ Mch X hs env vars ρ h I D L xs nm σ mv
  tab : TabInv h
structure EnvL (env : Env) (vars : List Str) : Prop where
  kind : env.scope.kind = .function
  glob : env.globals = mainGlobals
  blt : env.builtins = builtinsNs
  nodbg : ∀ v ∈ vars, (v == ("__debug__" : Str)) = false
theorem Rd.grow {X : LX} {hs : Addr → Option Obj} {N₀ : Addr → Prop} {env : Env} {vars : List Str} {ρ : LLoc} {W : Addr → Prop} {h h' : Heap} (R : Rd X hs N₀ env vars ρ W h) (k : Grow h h') : Rd X hs N₀ env vars ρ W h' := by
  refine ⟨fun b o e => k b o (R.base b o e), fun a w => ?_, fun i n v hi hv => ?_, fun i n σ mv hi hv => ?_, R.tab.keep fun b o _ e _ => k b o e⟩
  · obtain ⟨its, l⟩ := R.lists a w; exact ⟨its, l.keeps k⟩
  · obtain ⟨y, a, r⟩ := R.var i n v hi hv; exact ⟨y, a.grow k, r.grow k⟩
  · obtain ⟨I, D, L, xs, nm, a, m⟩ := R.mach i n σ mv hi hv
    exact ⟨I, D, L, xs, nm, a.grow k, m.own, m.nam, m.vL.grow k, m.mr.grow k, m.hD, m.d0, m.l0, m.Dl⟩

noncomputable abbrev Ks (s s' : Shared) : Prop := ∃ h' t', s' = { s with heap := h', toks := t' }
noncomputable def Kg (s s' : Shared) : Prop := ∃ h' t', s' = { s with heap := h', toks := t' } ∧ Grow s.heap h'
theorem Kg.refl {s : Shared} : Kg s s := ⟨s.heap, s.toks, rfl, fun _ _ e => e⟩
theorem Kg.trans {a b c : Shared} (x : Kg a b) (y : Kg b c) : Kg a c := by
  obtain ⟨h, t, rfl, g⟩ := x; obtain ⟨h', t', rfl, g'⟩ := y
  exact ⟨h', t', rfl, fun b o e => g' b o (g b o e)⟩
theorem Kg.grow {s s' : Shared} (x : Kg s s') : Grow s.heap s'.heap := by obtain ⟨h, t, rfl, g⟩ := x; exact g
theorem Kg.tok {s : Shared} {t : Nat} : Kg s { s with toks := t } := ⟨s.heap, t, rfl, fun _ _ e => e⟩
theorem Kg.push {s : Shared} {o : Obj} {t : Nat} : Kg s { s with heap := s.heap.push o, toks := t } := ⟨_, t, rfl, fun _ _ e => Heap.get?_push_of_some _ e⟩
theorem Kg.push' {s : Shared} {o : Obj} : Kg s { s with heap := s.heap.push o } := ⟨_, s.toks, rfl, fun _ _ e => Heap.get?_push_of_some _ e⟩
theorem Kg.fresh {s s' : Shared} (x : Kg s s') : s.heap.get? s'.heap.objs.size = none := by
  cases e : s.heap.get? s'.heap.objs.size with
  | none => rfl
  | some o => exact absurd (Heap.lt_size (x.grow _ _ e)) (Nat.lt_irrefl _)
theorem Kg.ks {s s' : Shared} (x : Kg s s') : Ks s s' := by obtain ⟨h, t, e, _⟩ := x; exact ⟨h, t, e⟩
theorem Ks.refl {s : Shared} : Ks s s := ⟨s.heap, s.toks, rfl⟩
theorem Ks.trans {a b c : Shared} (x : Ks a b) (y : Ks b c) : Ks a c := by
  obtain ⟨h, t, rfl⟩ := x; obtain ⟨h', t', rfl⟩ := y
  exact ⟨h', t', rfl⟩
theorem fresh_notin {W : Addr → Prop} {h : Heap} {a : Addr} (x : Lists W h) (e : h.get? a = none) : ¬ W a := fun w => by
  obtain ⟨its, o, _, q, _⟩ := x a w; rw [e] at q; injection q
theorem fresh_size {h : Heap} : h.get? h.objs.size = none := by
  cases e : h.get? h.objs.size with
  | none => rfl
  | some o => exact absurd (Heap.lt_size e) (Nat.lt_irrefl _)

section
variable {X : LX} {hs : Addr → Option Obj} {N₀ : Addr → Prop} {env : Env} {vars : List Str} {ρ : LLoc} {W : Addr → Prop} {A : Around} {E' : Value → Shared → Prop} {s : Shared}
theorem load_at (EL : EnvL env vars) {i : Nat} {n : Str} {p : Pos} {y : Value} (hi : vars[i]? = some n) (hy : VarAt env s.heap n y) {Q : Value → Shared → Prop} (h : Q y s) : wpAny (model X.x.prog X.x.w) A (eval (.Name n p) env) Q E' s := by
  refine wpAny_Name ?_ (EL.nodbg n (List.mem_of_getElem? hi))
  rcases hy with ⟨k, m, hm, e⟩ | ⟨k, c, hc, hv⟩
  · exact wpAny_loadName_local EL.kind k hm e h
  · exact wpAny_loadName_cell EL.kind k hc hv h
theorem readV_of {v : Nat} {x : LV} (h : readV ρ v = some x) : ρ.at v = some x ∧ stable x = true := by
  refine bind_el h fun u e h => ?_
  obtain ⟨q, h⟩ := cond_of h
  (injection h with h; subst h)
  exact ⟨e, q⟩
theorem RVar.val {v : LV} {y : Value} {h : Heap} (r : RVar N₀ W h v y) (hv : stable v = true) : RV (nn N₀ W) h v y := by
  cases v <;> first | exact r | injection hv
theorem RV.var {v : LV} {y : Value} {h : Heap} (r : RV (nn N₀ W) h v y) : RVar N₀ W h v y := by
  cases v <;> first | exact r | exact r.elim
theorem load_var' (R : Rd X hs N₀ env vars ρ W s.heap) (EL : EnvL env vars) {i : Nat} {n : Str} {p : Pos} {v : LV} (hi : vars[i]? = some n) (hv : readV ρ i = some v) {Q : Value → Shared → Prop} (h : ∀ y, RV (nn N₀ W) s.heap v y → Q y s) :
    wpAny (model X.x.prog X.x.w) A (eval (.Name n p) env) Q E' s := by
  obtain ⟨e, st⟩ := readV_of hv
  obtain ⟨y, a, r⟩ := R.var i n v hi e
  exact load_at EL hi a (h y (r.val st))
theorem load_own (R : Rd X hs N₀ env vars ρ W s.heap) (EL : EnvL env vars) {i : Nat} {n : Str} {p : Pos} {xs : List Int} (hi : vars[i]? = some n) (hv : ρ.at i = some (.own xs)) {Q : Value → Shared → Prop}
    (h : ∀ a items, VarAt env s.heap n (.ref a) → W a → PlainL s.heap a items → IntsAre items.toList xs → xs.length ≤ lim → Q (.ref a) s) : wpAny (model X.x.prog X.x.w) A (eval (.Name n p) env) Q E' s := by
  obtain ⟨y, a, b, its, rfl, w, l, i, z⟩ := R.var i n _ hi hv
  exact load_at EL hi a (h b its a w l i z)
theorem load_builtin (EL : EnvL env vars) (g : s.heap.Ns mainGlobals X.mg) (b : s.heap.Ns builtinsNs X.mb) {n : Str} {p : Pos} {v : Value} (hk : env.kindOf n = some .globalImplicit) (h1 : X.mg n = none) (h2 : X.mb n = some v)
    (hd : (n == ("__debug__" : Str)) = false) {Q : Value → Shared → Prop} (h : Q v s) : wpAny (model X.x.prog X.x.w) A (eval (.Name n p) env) Q E' s :=
  Calls.Name_function_global EL.kind hk (Calls.loadGlobal_builtin (by rw [EL.glob]; exact g) h1 (by rw [EL.blt]; exact b) h2 h) hd
theorem load_global (EL : EnvL env vars) (g : s.heap.Ns mainGlobals X.mg) {n : Str} {p : Pos} {v : Value} (hk : env.kindOf n = some .globalImplicit) (h1 : X.mg n = some v)
    (hd : (n == ("__debug__" : Str)) = false) {Q : Value → Shared → Prop} (h : Q v s) : wpAny (model X.x.prog X.x.w) A (eval (.Name n p) env) Q E' s :=
  Calls.Name_function_global EL.kind hk (Calls.loadGlobal_global (by rw [EL.glob]; exact g) h1 h) hd
end
end Mine

end
section
open PySem PySem.W PyProof.Rows
set_option maxRecDepth 100000
namespace Mine
structure AOk (A : Around) (d : Nat) : Prop where
  hh : A.handled = none
  dp : A.depth + d ≤ recursionLimit
  un : A.units + 4 * d + 80 < cLine
theorem AOk.deeper {A : Around} {d : Nat} {env : Env} (a : AOk A (d + 1)) : AOk (A.deeper env) d := by
  obtain ⟨h1, h2, h3⟩ := a
  exact ⟨h1, by show A.depth + 1 + d ≤ _; omega, by show A.units + 3 + 4 * d + 80 < _; omega⟩
theorem lim_size : lim ≤ sizeLine := by rw [sizeLine_eq]; decide
theorem lim_63 {n : Nat} (h : n ≤ lim) : (n : Int) < 2 ^ 63 := by
  have : (lim : Int) < 2 ^ 63 := by decide
  have : (n : Int) ≤ lim := Int.ofNat_le.mpr h
  omega

section
variable {prog : Program} {w : World} {A : Around} {E : Value → Shared → Prop} {s : Shared}
theorem ints_len {items : Array Value} {xs : List Int} (h : IntsAre items.toList xs) : items.size = xs.length := by rw [← h.length, Array.length_toList]
theorem add_raw {l b : Addr} {is js : Array Value} {Q : Value → Shared → Prop} (hl : s.heap.IsList l is) (hb : s.heap.IsList b js) (hsz : is.size + js.size ≤ sizeLine)
    (h : Q (.ref s.heap.objs.size) { s with heap := s.heap.push { cls := .type "list", data := .seq (is ++ js) } }) : wpAny (model prog w) A (binaryOp .Add (.ref l) (.ref b)) Q E s := by
  obtain ⟨⟨cls, dd, data, sl⟩, ho, hc, n, hd⟩ := id hl
  obtain ⟨⟨cls2, dd2, data2, sl2⟩, ho2, hc2, n2, hd2⟩ := id hb
  simp only at hc hd hc2 hd2
  subst hc hd hc2 hd2
  exact concat_meets ⟨_, ho, rfl⟩ ⟨_, ho2, rfl⟩ noFill_list_add seq_list_add PySem.F.slot_list_add PySem.F.entry_list_add (PySem.F.args_list_add_2 _ _) (list_addW l b is js n n2 dd dd2 sl sl2 hsz) ⟨ho, ho2, h⟩
theorem ints_flat {vs : List Value} {xs : List Int} (h : IntsAre vs xs) : ∀ n, IntsAre (List.replicate n vs).flatten (List.replicate n xs).flatten
  | 0 => .nil
  | n + 1 => by rw [List.replicate_succ, List.replicate_succ, List.flatten_cons, List.flatten_cons]; exact h.append (ints_flat h n)
theorem mul_raw {l : Addr} {is : Array Value} {x : Int} {u : Tok} {Q : Value → Shared → Prop} (hl : s.heap.IsList l is) (h0 : 0 ≤ x) (h1 : x ≤ lim) (hsz : is.size * x.toNat ≤ lim)
    (h : Q (.ref s.heap.objs.size) { s with heap := s.heap.push { cls := .type "list", data := .seq (List.replicate x.toNat is.toList).flatten.toArray } }) : wpAny (model prog w) A (binaryOp .Mult (.ref l) (.int x u)) Q E s := by
  obtain ⟨⟨cls, d, data, sl⟩, ho, hcl, k, hd⟩ := id hl
  simp only at hcl hd
  subst hcl hd
  have hl : (lim : Int) < 2 ^ 24 := by decide
  have hl' : lim < 2 ^ 24 := by decide
  have hsz' : is.size * x.toNat ≤ 2 ^ 24 := by omega
  refine wpAny_binaryOp_repeat_ref (T := "list") (U := "int") (by decide) ⟨_, ho, rfl⟩ (fun s' => typeIs_int s' x u) noFill_list_mul F.fills_int_mul F.slot_int_rmul repeat_list F.slot_int_index.lookup
    (call_meets F.slot_int_rmul (typeIs_int s x u) F.entry_int_rmul (F.args_int_rmul_2 _ _) (lm_int_rmul_list_any x u l is k d sl)
      ⟨ho, rfl, ⟨_, ho, rfl⟩, call_meets F.slot_list_mul ⟨_, ho, rfl⟩ F.entry_list_mul (F.args_list_mul_2 _ _)
        (lm_list_mul_any l is k d sl x u (by simp [Builtin.List.listFitsIndex]; omega) (by omega) (by simp [Builtin.List.listTooLong, sizeLine]; omega))
        ⟨ho, ?_⟩⟩)
  rw [listMul_foldl_if is x.toNat]
  exact h
end
end Mine

end
section
open PySem PySem.W PyProof.Rows
set_option maxRecDepth 100000
namespace Mine
noncomputable def bltT : List (Str × Value) := [("len", .builtin "len"), ("sum", .builtin "sum"), ("divmod", .builtin "divmod"), ("range", .type "range"), ("enumerate", .type "enumerate"), ("sorted", .builtin "sorted")]
structure LOk (X : LX) : Prop where
  ok : ∀ I D L, X.x.h₀.get? D = none → X.x.h₀.get? L = none → D ≠ L → Ok (X.at I D L)
  sm : Small X.x
  g : X.x.h₀.Ns mainGlobals X.mg
  b : X.x.h₀.Ns builtinsNs X.mb
  blt : ∀ n v, (n, v) ∈ bltT → X.mg n = none ∧ X.mb n = some v
  mpu : X.mg "MPU" = some (.ref X.x.C)
  keep : keepIn X.x.K (.ref X.x.C) = true
  makes : makesIn X.x.K X.x.C = true
  init : findIn X.x.K (.ref X.x.C) "__init__" = some (some (.ref (X.x.fnA X.im)))
  initT : typeIn X.x.K (.ref (X.x.fnA X.im)) = some (.type "function")
  initB : ∀ (s : Shared) (fd : FuncData) (md : MethD) (self m p : Value), X.x.c.P[X.im]? = some md → X.x.K.lookup (X.x.fnA X.im) = some ⟨.type "function", none, .func fd, #[]⟩ → X.x.K.In s.heap →
    BindsTo s fd ⟨[self], [("memory", m), ("pc", p)]⟩ ((md.vars.take md.np).zip [self, m, p])
  lim : X.x.h₀.NoLimit
  told : ∃ a o fdt, X.mg "_law_told" = some (.ref a) ∧ X.x.h₀.get? a = some o ∧ o.data = .func fdt ∧ X.x.h₀.CodeRec fdt.code fdt.qualname ∧ toldB fdt = true
  ev : ∃ a o fdt, X.mg "_law_event" = some (.ref a) ∧ X.x.h₀.get? a = some o ∧ o.data = .func fdt ∧ X.x.h₀.CodeRec fdt.code fdt.qualname ∧ evB X.F fdt = true
noncomputable def clOf (cells : List (Str × Addr)) : List (Str × NameKind) → List (Str × Addr) → List (Str × Addr)
  | [], acc => acc
  | (n, k) :: r, acc => match k == .free, cells.lookup n with
    | true, some c => clOf cells r ((n, c) :: acc)
    | _, _ => clOf cells r acc
theorem closure_go {env : Env} (f : Str × NameKind → List (Str × Addr) → Sem (ForInStep (List (Str × Addr))))
    (hf : ∀ n k cs, f (n, k) cs = if k == .free then (do let c ← cellOf env n; pure (.yield ((n, c) :: cs))) else pure (.yield cs)) :
    ∀ (names : List (Str × NameKind)) (acc : List (Str × Addr)), (∀ y ∈ names, y.2 = .free → ∃ c, env.cells.lookup y.1 = some c) → forIn names acc f = (pure (clOf env.cells names acc) : Sem _)
  | [], acc, _ => rfl
  | (n, k) :: r, acc, h => by
    rw [List.forIn_cons, hf]
    have hr := fun y hy => h y (List.mem_cons_of_mem _ hy)
    unfold clOf
    cases hk : k == NameKind.free with
    | false =>
      simp only [Bool.false_eq_true, if_false, pure_bind]
      exact closure_go f hf r acc hr
    | true =>
      obtain ⟨c, hc⟩ := h (n, k) List.mem_cons_self (beq_iff_eq.mp hk)
      dsimp only at hc
      simp only [if_true, hc, cellOf, pure_bind, bind_pure_comp]
      exact closure_go f hf r _ hr
theorem closure_eq {env : Env} {scope : Scope} (h : ∀ y ∈ scope.names, y.2 = .free → ∃ c, env.cells.lookup y.1 = some c) : closureFor scope env = pure (clOf env.cells scope.names []) := by
  have e := closure_go (env := env) (fun x cs => match x with | (n, k) => if (k == .free) = true then (do let c ← cellOf env n; pure (.yield ((n, c) :: cs))) else pure (.yield cs)) (fun _ _ _ => rfl) scope.names [] h
  show ((forIn scope.names [] fun x cs => match x with | (n, k) => if (k == .free) = true then (do let c ← cellOf env n; pure (.yield ((n, c) :: cs))) else pure (.yield cs)) >>= fun cs => (pure cs : Sem _)) = _
  rw [e]; rfl
theorem clOf_lookup {cells : List (Str × Addr)} : ∀ (names : List (Str × NameKind)) (acc : List (Str × Addr)), (∀ n c, acc.lookup n = some c → cells.lookup n = some c) →
    (∀ n c, (clOf cells names acc).lookup n = some c → cells.lookup n = some c) ∧ (∀ n, ((acc.lookup n).isSome = true ∨ ((n, NameKind.free) ∈ names ∧ (cells.lookup n).isSome = true)) → ((clOf cells names acc).lookup n).isSome = true)
  | [], acc, h => ⟨h, fun n q => by rcases q with q | ⟨q, _⟩; exact q; cases q⟩
  | (m, k) :: r, acc, h => by
    unfold clOf
    split
    · rename_i c hk hc
      have h' : ∀ n d, ((m, c) :: acc).lookup n = some d → cells.lookup n = some d := fun n d q => by
        rw [List.lookup_cons] at q
        cases e : n == m with
        | true => rw [e] at q; (injection q with q; subst q); rw [beq_iff_eq.mp e]; exact hc
        | false => rw [e] at q; exact h n d q
      obtain ⟨a, b⟩ := clOf_lookup r ((m, c) :: acc) h'
      refine ⟨a, fun n q => b n ?_⟩
      rcases q with q | ⟨q, q'⟩
      · left; rw [List.lookup_cons]; cases e : n == m <;> simp [q]
      · rcases List.mem_cons.mp q with e | q
        · (injection e with e; subst e); left; rw [List.lookup_cons]; simp
        · exact .inr ⟨q, q'⟩
    · rename_i hn
      obtain ⟨a, b⟩ := clOf_lookup r acc h
      refine ⟨a, fun n q => b n ?_⟩
      rcases q with q | ⟨q, q'⟩
      · exact .inl q
      · rcases List.mem_cons.mp q with e | q
        · cases e
          obtain ⟨c, hc⟩ := Option.isSome_iff_exists.mp q'
          exact absurd hc (hn c rfl)
        · exact .inr ⟨q, q'⟩
theorem relabel_cell {env : Env} : ∀ {names : List (Str × NameKind)} {n : Str}, (∀ y ∈ names, y.2 ≠ .cell) → env.scope.kind = .function →
    ((names.map fun (n, k) => if (k == NameKind.free && env.scope.kind == .function && env.kindOf n == some .cell) then (n, NameKind.cell) else (n, k)).lookup n = some .cell ↔ names.lookup n = some .free ∧ env.kindOf n = some .cell)
  | [], n, _, _ => by simp
  | (m, k) :: r, n, h, hk => by
    have ih := @relabel_cell env r n (fun y hy => h y (List.mem_cons_of_mem _ hy)) hk
    have hkc : k ≠ .cell := h (m, k) List.mem_cons_self
    have e1 : ((if (k == NameKind.free && env.scope.kind == .function && env.kindOf m == some .cell) = true then (m, NameKind.cell) else (m, k)) : Str × NameKind).1 = m := by split <;> rfl
    show List.lookup n ((if (k == NameKind.free && env.scope.kind == .function && env.kindOf m == some .cell) = true then (m, NameKind.cell) else (m, k)) :: _) = _ ↔ _
    generalize hg : (if (k == NameKind.free && env.scope.kind == .function && env.kindOf m == some .cell) = true then (m, NameKind.cell) else (m, k)) = z at e1
    obtain ⟨z1, z2⟩ := z
    dsimp only at e1
    subst e1
    rw [List.lookup_cons, List.lookup_cons]
    cases e : n == z1 with
    | false => exact ih
    | true =>
      have en : n = z1 := beq_iff_eq.mp e
      subst en
      dsimp only
      simp only [Option.some.injEq]
      constructor
      · intro q
        subst q
        split at hg
        · rename_i c
          simp only [Bool.and_eq_true, beq_iff_eq] at c
          exact ⟨c.1.1, c.2⟩
        · (injection hg with hg hz; cases hg; subst hz); exact absurd rfl hkc
      · rintro ⟨rfl, q⟩
        rw [if_pos (by simp [hk, q])] at hg
        (injection hg with hg hz; cases hg; subst hz); rfl
theorem relabel_glob {env : Env} : ∀ {names : List (Str × NameKind)} {n : Str} {k : NameKind}, k ≠ .free → k ≠ .cell → names.lookup n = some k →
    (names.map fun (n, k) => if (k == NameKind.free && env.scope.kind == .function && env.kindOf n == some .cell) then (n, NameKind.cell) else (n, k)).lookup n = some k
  | [], _, _, _, _, h => by simp at h
  | (m, j) :: r, n, k, h1, h2, h => by
    have ih := @relabel_glob env r n k h1 h2
    show List.lookup n ((if (j == NameKind.free && env.scope.kind == .function && env.kindOf m == some .cell) = true then (m, NameKind.cell) else (m, j)) :: _) = _
    cases hx : n == m with
    | true =>
      simp only [List.lookup_cons, hx] at h
      (injection h with h; subst h)
      have : (j == NameKind.free) = false := by simpa using h1
      simp [List.lookup_cons, hx, this]
    | false =>
      simp only [List.lookup_cons, hx] at h
      by_cases hc : (j == NameKind.free && env.scope.kind == .function && env.kindOf m == some .cell) = true
      · rw [if_pos hc]; simp only [List.lookup_cons, hx]; exact ih h
      · rw [if_neg hc]; simp only [List.lookup_cons, hx]; exact ih h
end Mine

end
section
open PySem PySem.W PyProof.Rows
set_option maxRecDepth 100000
set_option linter.unusedSimpArgs false
set_option linter.unusedVariables false
namespace Mine
noncomputable def fl (b : Bool) (N : Addr → Prop) : Addr → Prop := fun a => b = true ∧ N a
theorem RV.unfl {N : Addr → Prop} {h : Heap} {v : LV} {y : Value} {b : Bool} (r : RV (fl b N) h v y) (hb : b = true) : RV N h v y := r.weak fun _ _ q => ⟨hb, q⟩
theorem RV.tofl {N : Addr → Prop} {h : Heap} {v : LV} {y : Value} {b : Bool} (r : RV N h v y) : RV (fl b N) h v y := r.weak fun _ _ q => q.2
noncomputable def CallLOk (X : LX) (A : Around) (cf : Nat → List LV → Option LV) : Prop :=
  ∀ (f : Nat) (args : List LV) (v : LV), cf f args = some v → ∃ fd, X.F[f]? = some fd ∧ X.mg fd.nm = some (.ref (X.fA f)) ∧ (fd.nm == ("__debug__" : Str)) = false ∧ (∃ o fdt, X.x.h₀.get? (X.fA f) = some o ∧ o.data = .func fdt) ∧
    ∀ (s : Shared) (N : Addr → Prop) (vals : List Value) (R : Result → Shared → Prop), (∀ b o, X.x.h₀.get? b = some o → s.heap.get? b = some o) → Lists N s.heap → Paired (RV N s.heap) args vals →
      (∀ y s', RV N s'.heap v y → Kg s s' → R (.ok (.ret y)) s') → codeAny (model X.x.prog X.x.w) A (.call (.ref (X.fA f)) ⟨vals, []⟩) R s
structure KOk (k : LC) (env : Env) : Prop where
  g : ∀ n, k.names.lookup n = some .globalImplicit → env.kindOf n = some .globalImplicit
  c : ∀ n, k.names.lookup n = some .cell → env.kindOf n = some .cell ∧ ∃ c, env.cells.lookup n = some c
theorem isVarL_of {k : LC} {v : Nat} {n : Str} (h : k.isVar v n = true) : k.vars[v]? = some n := beq_iff_eq.mp h
theorem isGlob_of {k : LC} {n : Str} (h : k.isGlob n = true) : k.names.lookup n = some .globalImplicit := beq_iff_eq.mp h
theorem plainL_sub {e : PySem.Expr} (h : plainL e = true) (o i : Value) : subscripted e false o i = operate [o, i] (getItem o i) := by
  cases e <;> first | rfl | injection h
theorem plainL_star {e : PySem.Expr} (h : plainL e = true) (env : Env) (rest : List PySem.Expr) : starEach (e :: rest) env = (false, eval e env) :: starEach rest env := by
  cases e <;> first | rfl | injection h
theorem plainL_marks {e : PySem.Expr} (h : plainL e = true) (op : COp) : behindInMarks op.op e = false := op_marks op e (by cases e <;> first | rfl | injection h)
section
variable {X : LX} {A : Around} {E' : Value → Shared → Prop} {s : Shared}
theorem LOp.binary {op : LOp} {a b r : Int} {t u : Tok} (e : op.ev a b = some r) {Q : Value → Shared → Prop} (h : ∀ t, Q (.int r t) { s with toks := s.toks + 1 }) : wpAny (model X.x.prog X.x.w) A (binaryOp op.op (.int a t) (.int b u)) Q E' s := by
  cases op <;> simp only [LOp.ev, Option.some.injEq] at e
  · subst e; exact add_int (h _)
  · subst e; exact sub_int (h _)
  · split at e
    · rename_i q; (injection e with e; subst e)
      refine PyProof.Rows.mul_int (h _) ?_
      rcases q with q | q
      · exact IntMulOk.of_left (PySem.intBits_le_64 (by omega) (by omega))
      · exact IntMulOk.of_right (PySem.intBits_le_64 (by omega) (by omega))
    · injection e
  · split at e
    · rename_i q; (injection e with e; subst e); exact floordiv_int q.1 (h _) (Or.inl (PyProof.noPylong_small q.2))
    · injection e
  · split at e
    · rename_i q; (injection e with e; subst e); exact mod_int' q (h _)
    · injection e
  · split at e
    · rename_i q; (injection e with e; subst e); exact pow_int_small q.1 (by omega) q.2.2 (h _)
    · injection e
theorem LOp.inplace {op : LOp} {a b r : Int} {t u : Tok} (e : op.ev a b = some r) {Q : Value → Shared → Prop} (h : ∀ t, Q (.int r t) { s with toks := s.toks + 1 }) : wpAny (model X.x.prog X.x.w) A (inplaceOp op.op (.int a t) (.int b u)) Q E' s := by
  cases op <;> simp only [LOp.ev, Option.some.injEq] at e
  · subst e; exact PySem.P.iadd_int (h _)
  · subst e; exact PySem.P.isub_int (h _)
  · split at e
    · rename_i q; (injection e with e; subst e)
      refine imul_int (h _) ?_
      rcases q with q | q
      · exact IntMulOk.of_left (PySem.intBits_le_64 (by omega) (by omega))
      · exact IntMulOk.of_right (PySem.intBits_le_64 (by omega) (by omega))
    · injection e
  · split at e
    · rename_i q; (injection e with e; subst e); exact ifloordiv_int q.1 (h _) (Or.inl (PyProof.noPylong_small q.2))
    · injection e
  · split at e
    · rename_i q; (injection e with e; subst e); exact imod_int q (h _)
    · injection e
  · split at e
    · rename_i q; (injection e with e; subst e); exact ipow_int_small q.1 (by omega) q.2.2 (h _)
    · injection e
end
end Mine

end
section
open PySem PySem.W PyProof.Rows
set_option maxRecDepth 100000
set_option maxHeartbeats 1000000
set_option linter.unusedSimpArgs false
set_option linter.unusedVariables false
set_option linter.unusedSectionVars false
namespace Mine
section
variable (X : LX) (A : Around) (cf : Nat → List LV → Option LV)
noncomputable def GoodE (e : LE) : Prop := ∀ (k : LC) (env : Env) (ρ : LLoc) (hs : Addr → Option Obj) (N₀ W : Addr → Prop) (ex : PySem.Expr) (v : LV), trL X.F k e ex = true → evL cf e ρ = some v → EnvL env k.vars → KOk k env → ρ.length = k.vars.length →
  ∀ (s : Shared) (Q : Value → Shared → Prop) (E' : Value → Shared → Prop), Rd X hs N₀ env k.vars ρ W s.heap → (∀ y s', RV (fl (stb e) (nn N₀ W)) s'.heap v y → Kg s s' → Q y s') → wpAny (model X.x.prog X.x.w) A (eval ex env) Q E' s
noncomputable def GoodF (e : LE) : Prop := ∀ (k : LC) (env : Env) (ρ : LLoc) (hs : Addr → Option Obj) (N₀ W : Addr → Prop) (ex : PySem.Expr) (v : LV), trL X.F k e ex = true → evL cf e ρ = some v → EnvL env k.vars → KOk k env → ρ.length = k.vars.length →
  ∀ (s : Shared) (Q : Value → Shared → Prop) (E' : Value → Shared → Prop), Rd X hs N₀ env k.vars ρ W s.heap → (∀ y s', RV (fl (stb e) (nn N₀ W)) s'.heap v y → Kg s s' → NewP s.heap s'.heap y → Q y s') → wpAny (model X.x.prog X.x.w) A (eval ex env) Q E' s
noncomputable def GoodT (e : LE) : Prop := ∀ (k : LC) (env : Env) (ρ : LLoc) (hs : Addr → Option Obj) (N₀ W : Addr → Prop) (ex : PySem.Expr) (v : LV) (b : Bool), trL X.F k e ex = true → evL cf e ρ = some v → truthL v = some b → EnvL env k.vars → KOk k env → ρ.length = k.vars.length →
  ∀ (s : Shared) (Q : Bool → Shared → Prop) (E' : Value → Shared → Prop), Rd X hs N₀ env k.vars ρ W s.heap → (∀ s', Kg s s' → Q b s') → wpAny (model X.x.prog X.x.w) A (isTrue ex env (eval ex env)) Q E' s
noncomputable def GoodEs (es : LEs) : Prop := ∀ (k : LC) (env : Env) (ρ : LLoc) (hs : Addr → Option Obj) (N₀ W : Addr → Prop) (l : List PySem.Expr) (vs : List LV) (pos : Pos), trLs X.F k es l = true → evLs cf es ρ = some vs → EnvL env k.vars → KOk k env → ρ.length = k.vars.length →
  ∀ (s : Shared) (Q : List Value → Shared → Prop) (E' : Value → Shared → Prop), Rd X hs N₀ env k.vars ρ W s.heap → (∀ ys s', Paired (RV (fl (stb.stbs es) (nn N₀ W)) s'.heap) vs ys → Kg s s' → Q ys s') → wpAny (model X.x.prog X.x.w) A (spliced (backTo pos (starEach l env))) Q E' s
inductive SrcIt (N₀ W : Addr → Prop) (s : Shared) (items : List LV) (it : Value) (s₂ : Shared) : Prop
  | mk (I : Addr) (fp : List Addr) (P : Nat → Value → Prop) (St : Nat → Heap → Prop) (hp : Heap) (eq : it = .ref I) (sz : items.length ≤ lim) (wk : Walks X.x.prog X.x.w A I fp [I] items.length P St) (st : St 0 s₂.heap) (nI : hp.get? I = none) (g1 : Grow s.heap hp) (g2 : Grow hp s₂.heap) (kg : Kg s s₂) (eI : ∃ o, s₂.heap.get? I = some o)
    (hfp : ∀ b ∈ fp, b = I ∨ ∃ o, hp.get? b = some o ∧ isStore o = false ∧ ¬ W b)
    (hP : ∀ i v, P i v → ∃ lv, items[i]? = some lv ∧ RV (nn N₀ W) hp lv v)
    (stK : ∀ i (h : Heap) b o, St i h → b ∈ fp → h.get? b = some o → isStore o = false)
    (itK : ∀ i (h : Heap), St i h → ∃ o vs, h.get? I = some o ∧ o.data = .fields vs ∧ ItO o vs)
    (go : ∀ i (s' : Shared) T elts j pos (Q : Unit → Shared → Prop) E, St i s'.heap → Q () s' → wpAny (model X.x.prog X.x.w) A (letOwnedTupleGo (.Tuple elts j pos) (.ref I) (.ref T)) Q E s')
noncomputable def GoodS (src : LSrc) : Prop := ∀ (k : LC) (env : Env) (ρ : LLoc) (hs : Addr → Option Obj) (N₀ W : Addr → Prop) (ex : PySem.Expr) (items : List LV), trSrc X.F k src ex = true → evSrc cf src ρ = some items → EnvL env k.vars → KOk k env → ρ.length = k.vars.length →
  ∀ (s : Shared) (Q : Value → Shared → Prop) (E' : Value → Shared → Prop), Rd X hs N₀ env k.vars ρ W s.heap → (∀ it s₂, SrcIt X A N₀ W s items it s₂ → Q it s₂) → wpAny (model X.x.prog X.x.w) A (eval ex env) (fun x s₁ => wpAny (model X.x.prog X.x.w) A (pyIter x) Q E' s₁) E' s
end
section
variable {X : LX} {A : Around} {cf : Nat → List LV → Option LV}
theorem truthyL_of {s : Shared} {N : Addr → Prop} {v : LV} {y : Value} {b : Bool} {Q : Bool → Shared → Prop} {E' : Value → Shared → Prop} (r : RV N s.heap v y) (t : truthL v = some b) (h : ∀ s', Kg s s' → Q b s') : wpAny (model X.x.prog X.x.w) A (truthy y) Q E' s := by
  cases v with
  | «at» a =>
    cases a with
    | int i => obtain ⟨u, rfl⟩ := r; (injection t with t; subst t); exact PyProof.Rows.truthy_int (h _ .refl)
    | bool c => obtain rfl := r; (injection t with t; subst t); exact wpAny_truthy_bool (h _ .refl)
    | none => obtain rfl := r; (injection t with t; subst t); exact truthy_none (h _ .refl)
    | «ints» xs =>
      obtain ⟨a, its, rfl, _, l, i, z⟩ := r
      (injection t with t; subst t)
      have hz : its.size = xs.length := ints_len i
      have e : (!its.isEmpty) = !xs.isEmpty := by
        unfold Array.isEmpty
        rw [hz]
        cases xs <;> simp
      exact wpAny_truthy_list l (lim_63 (by rw [hz]; exact z)) (by rw [e]; exact h _ .tok)
  | tup xs => injection t
  | rows xs => injection t
  | lists xs => injection t
  | own xs => injection t
  | ownR xs => injection t
  | mpu σ mv => injection t
theorem goodT_of {e : LE} (g : GoodE X A cf e) (hi : ∀ k ex env, trL X.F k e ex = true → isTrue ex env (eval ex env) = (do let v ← eval ex env; standAt ex.pos; holding [v] (truthy v))) : GoodT X A cf e :=
  fun k env ρ hs N₀ W ex v b ht he hb EL KO hl s Q E' R h =>
    isTrue_plain (g k env ρ hs N₀ W ex v ht he EL KO hl s _ _ R fun y s' r k' => truthyL_of r hb fun s'' k'' => h s'' (k'.trans k'')) (hi k ex env ht)
theorem g_int (i : Int) : GoodE X A cf (.int i) := by
  intro k env ρ hs N₀ W ex v ht he EL KO hl s Q E' R h
  refine inv_trL_int ht fun _ _ _ hx₀ ht => ?_
  subst hx₀
  obtain rfl := beq_iff_eq.mp ht
  (injection he with he; subst he)
  exact wpAny_Constant_int (h _ _ ⟨_, rfl⟩ .tok)
theorem g_bool (b : Bool) : GoodE X A cf (.bool b) := by
  intro k env ρ hs N₀ W ex v ht he EL KO hl s Q E' R h
  refine inv_trL_bool ht fun _ _ _ hx₀ ht => ?_
  subst hx₀
  obtain rfl := beq_iff_eq.mp ht
  (injection he with he; subst he)
  exact wpAny_Constant_bool (h _ _ rfl .refl)
theorem g_none : GoodE X A cf .none := by
  intro k env ρ hs N₀ W ex v ht he EL KO hl s Q E' R h
  refine inv_trL_none ht fun _ _ hx₀ ht => ?_
  subst hx₀
  (injection he with he; subst he)
  exact wpAny_Constant_none (h _ _ rfl .refl)
theorem g_var (i : Nat) : GoodE X A cf (.var i) := by
  intro k env ρ hs N₀ W ex v ht he EL KO hl s Q E' R h
  refine inv_trL_var ht fun _ _ hx₀ ht => ?_
  subst hx₀
  exact load_var' R EL (isVarL_of ht) he fun y r => h y s r.tofl .refl
theorem g_own (i : Nat) : GoodE X A cf (.own i) := by
  intro k env ρ hs N₀ W ex v ht he EL KO hl s Q E' R h
  refine inv_trL_own ht fun _ _ hx₀ ht => ?_
  subst hx₀
  refine bind_el he fun u hx he => ?_
  refine map_el he fun xs hu e => ?_
  subst e
  cases LV.own?_of hu
  exact load_own R EL (isVarL_of ht) hx fun a its _ _ l ia z => h _ s ⟨a, its, rfl, fun q => (by cases q.1), l.isList, ia, z⟩ .refl
theorem fresh_ints {N : Addr → Prop} {b : Bool} {h : Heap} {its : List Value} {xs : List Int} (x : Lists N h) (i : IntsAre its xs) (z : xs.length ≤ lim) : RV (fl b N) (h.push { cls := .type "list", data := .seq its.toArray }) (.ints xs) (.ref h.objs.size) :=
  ⟨_, its.toArray, rfl, fun q => fresh_notin x fresh_size q.2, ⟨_, Heap.get?_push_size _ rfl, rfl, _, rfl⟩, by simpa using i, z⟩
theorem GoodF.toE {e : LE} (g : GoodF X A cf e) : GoodE X A cf e := fun k env ρ hs N₀ W ex v ht he EL KO hl s Q E' R h => g k env ρ hs N₀ W ex v ht he EL KO hl s Q E' R fun y s' r k' _ => h y s' r k'
theorem paired_app {α β : Type} {F : α → β → Prop} : ∀ {l₁ : List α} {l₂ : List β} {m₁ : List α} {m₂ : List β}, Paired F l₁ l₂ → Paired F m₁ m₂ → Paired F (l₁ ++ m₁) (l₂ ++ m₂)
  | _, _, _, _, .nil, h => h
  | _, _, _, _, .cons r p, h => .cons r (paired_app p h)
theorem rowsE_list {N : Addr → Prop} {h : Heap} {x : LV} {y : Value} {xs : List (List At)} (r : RV N h x y) (e : x.rowsE? = some xs) : ∃ a items, y = .ref a ∧ h.IsList a items ∧ Paired (RT N h) xs items.toList := by
  rcases LV.rowsE?_of e with rfl | ⟨rfl, rfl⟩
  · obtain ⟨a, its, e, _, l, p, _⟩ := r; exact ⟨a, its, e, l, p⟩
  · obtain ⟨a, its, e, _, l, i, _⟩ := r
    refine ⟨a, its, e, l, ?_⟩
    generalize its.toList = L at i
    cases i; exact .nil
theorem bin_of {op : LOp} {x y v : LV} {a b : Value} {s : Shared} {N : Addr → Prop} {f1 f2 f3 : Bool} (L : Lists N s.heap) (ra : RV (fl f1 N) s.heap x a) (rb : RV (fl f2 N) s.heap y b) (h3 : f3 = true → f1 = true ∧ f2 = true) (he : binV op x y = some v) {Q : Value → Shared → Prop} {E' : Value → Shared → Prop}
    (h : ∀ y s', RV (fl f3 N) s'.heap v y → Kg s s' → (∀ a, y = .ref a → s.heap.objs.size = a ∧ ∃ o, s'.heap.get? a = some o ∧ o.dict = none) → Q y s') : wpAny (model X.x.prog X.x.w) A (binaryOp op.op a b) Q E' s := by
  rcases alt_of he with ⟨i, hi, he⟩ | he
  · obtain ⟨j, hj, he⟩ := bind_of he
    refine map_el he fun r hr e => ?_
    subst e
    cases LV.int?_of hi
    cases LV.int?_of hj
    obtain ⟨t, rfl⟩ := ra
    obtain ⟨u, rfl⟩ := rb
    exact LOp.binary hr fun t => h _ _ ⟨t, rfl⟩ .tok fun a q => nomatch q
  rcases orO_of he with he | he
  · obtain ⟨xs, hxs, he⟩ := bind_of he
    cases LV.ints?_of hxs
    obtain ⟨a1, i1, rfl, _, l1, n1, _⟩ := ra
    rcases alt_of he with ⟨ys, hys, he⟩ | he
    · obtain ⟨⟨rfl, q⟩, e⟩ := ite_of he
      (injection e with e; subst e)
      cases LV.ints?_of hys
      obtain ⟨a2, i2, rfl, _, l2, n2, _⟩ := rb
      refine add_raw l1 l2 (by rw [ints_len n1, ints_len n2]; rw [List.length_append] at q; exact Nat.le_trans q lim_size) ?_
      have e : (i1 ++ i2) = (i1.toList ++ i2.toList).toArray := by rw [← Array.toList_append, Array.toArray_toList]
      rw [e]
      exact h _ _ (fresh_ints L (n1.append n2) q) .push' fun a q => by (injection q with q; subst q); exact ⟨rfl, _, Heap.get?_push_size _ rfl, rfl⟩
    · obtain ⟨n, hn, he⟩ := bind_of he
      obtain ⟨⟨rfl, q0, q1, q2⟩, e⟩ := ite_of he
      (injection e with e; subst e)
      cases LV.int?_of hn
      obtain ⟨u, rfl⟩ := rb
      refine mul_raw l1 q0 q1 (by rw [ints_len n1]; exact q2) (h _ _ (fresh_ints L (ints_flat n1 _) ?_) .push' fun a q => by (injection q with q; subst q); exact ⟨rfl, _, Heap.get?_push_size _ rfl, rfl⟩)
      unfold repeatL
      rw [List.length_flatten, List.map_replicate, List.sum_replicate_nat, Nat.mul_comm]
      exact q2
  · obtain ⟨xs, hxs, he⟩ := bind_of he
    refine bind_el he fun ys hys he => ?_
    obtain ⟨⟨rfl, q⟩, e⟩ := ite_of he
    (injection e with e; subst e)
    obtain ⟨a1, i1, rfl, l1, p1⟩ := rowsE_list ra hxs
    obtain ⟨a2, i2, rfl, l2, p2⟩ := rowsE_list rb hys
    refine add_raw l1 l2 (by rw [← Array.length_toList, ← Array.length_toList, ← p1.length, ← p2.length]; rw [List.length_append] at q; exact Nat.le_trans q lim_size) ?_
    have gr : Grow s.heap (s.heap.push { cls := .type "list", data := .seq (i1 ++ i2) }) := (Kg.push' (s := s)).grow
    have w1 : ∀ {x : List At} {y : Value}, RT (fl f1 N) s.heap x y → RT (fl f3 N) (s.heap.push { cls := .type "list", data := .seq (i1 ++ i2) }) x y := fun r => RT.grow (r.weak fun _ _ z => ⟨(h3 z.1).1, z.2⟩) gr
    have w2 : ∀ {x : List At} {y : Value}, RT (fl f2 N) s.heap x y → RT (fl f3 N) (s.heap.push { cls := .type "list", data := .seq (i1 ++ i2) }) x y := fun r => RT.grow (r.weak fun _ _ z => ⟨(h3 z.1).2, z.2⟩) gr
    exact h _ _ ⟨_, i1 ++ i2, rfl, fun z => fresh_notin L fresh_size z.2, ⟨_, Heap.get?_push_size _ rfl, rfl, _, rfl⟩, by rw [Array.toList_append]; exact paired_app (p1.mono fun _ _ => w1) (p2.mono fun _ _ => w2), q⟩ .push' fun a q => by (injection q with q; subst q); exact ⟨rfl, _, Heap.get?_push_size _ rfl, rfl⟩
theorem g_bin {op : LOp} {a b : LE} (ga : GoodE X A cf a) (gb : GoodE X A cf b) : GoodF X A cf (.bin op a b) := by
  intro k env ρ hs N₀ W ex v ht he EL KO hl s Q E' R h
  refine inv_trL_bin ht fun _ _ _ _ hx₀ ht => ?_
  subst hx₀
  refine and_el ht fun ht hb => ?_
  refine and_el ht fun ht ha => ?_
  cases beq_iff_eq.mp ht
  refine bind_el he fun x hx he => ?_
  refine bind_el he fun y hy he => ?_
  refine wpAny_BinOp (ga k env ρ hs N₀ W _ x ha hx EL KO hl s _ _ R fun ya s₁ ra ka => gb k env ρ hs N₀ W _ y hb hy EL KO hl s₁ _ _ (R.grow ka.grow) fun yb s₂ rb kb => ?_)
  have kk := ka.trans kb
  have L₂ := (R.grow kk.grow).lists
  exact bin_of L₂ (ra.grow kb.grow) rb (fun q => Bool.and_eq_true_iff.mp q) he (fun y s' r k' n => h y s' r (kk.trans k') fun a q => ⟨by rw [← (n a q).1]; exact kk.fresh, (n a q).2⟩)
theorem reads_ints {h : Heap} : ∀ {vs : List Value} {ns : List Int}, IntsAre vs ns → ReadsAll h vs (ns.map PyData.int) []
  | _, _, .nil => .nil
  | _, _, .cons k t r => by
    have := ReadsAll.cons (Reads.int (h := h) k t) (reads_ints (h := h) r)
    simpa using this
theorem reads_tup {h : Heap} {a : Addr} {its : Array Value} {ns : List Int} (hl : IsTup h a its) (hi : IntsAre its.toList ns) : ∃ as, Reads h (.ref a) (.tuple (ns.map PyData.int)) as := by
  obtain ⟨o, ho, hc, n, hd⟩ := hl
  exact ⟨_, Reads.tuple ho hc hd (reads_ints hi)⟩
theorem ints_of_ats {N : Addr → Prop} {h : Heap} : ∀ {as : List At} {vs : List Value} {ns : List Int}, Paired (RA N h) as vs → atsInts as = some ns → IntsAre vs ns
  | [], _, _, .nil, e => by (injection e with e; subst e); exact .nil
  | a :: as, _, ns, .cons r p, e => by
    refine bind_el e fun b hb e => ?_
    refine map_el e fun l hl e => ?_
    subst e
    cases At.int?_of hb
    obtain ⟨t, rfl⟩ := r
    exact .cons _ t (ints_of_ats p hl)
theorem depth_ints : ∀ ns : List Int, PyData.depthAll (ns.map PyData.int) ≤ 1
  | [] => by simp [PyData.depthAll]
  | n :: r => by
    have := depth_ints r
    simp only [List.map_cons, PyData.depthAll, PyData.depth]
    omega
theorem shaped_tup (ns : List Int) : PySem.SeqAt.shaped (.tuple (ns.map PyData.int)) = true := by
  have h1 := depth_ints ns
  have h2 : PyData.depth (.tuple (ns.map PyData.int)) ≤ 64 := by simp only [PyData.depth]; omega
  show (PyData.canLay0 (.tuple (ns.map PyData.int)) && decide (PyData.depth (.tuple (ns.map PyData.int)) ≤ 64)) = true
  rw [Bool.and_eq_true]
  exact ⟨by simp only [PyData.canLay0]; exact canLayAll0_ints ns, decide_eq_true h2⟩
theorem beq_dec {xs ys : List Int} : (xs == ys) = decide (xs = ys) := by by_cases h : xs = ys <;> simp [h]
theorem cmp_of {s : Shared} {N : Addr → Prop} {op : COp} {x y : LV} {a b : Value} {r : Bool} (hu : A.units + 64 < cLine) (ra : RV N s.heap x a) (rb : RV N s.heap y b) (hc : cmpV op x y = some r) {Q : Value → Shared → Prop} {E' : Value → Shared → Prop} (h : Q (.bool r) s) :
    wpAny (model X.x.prog X.x.w) A (compareOp op.op a b) Q E' s := by
  rcases alt_of hc with ⟨i, hi, hc⟩ | hc
  · obtain ⟨j, hj, e⟩ := map_of hc
    subst e
    cases LV.int?_of hi
    cases LV.int?_of hj
    obtain ⟨t, rfl⟩ := ra
    obtain ⟨u, rfl⟩ := rb
    exact COp.compare (x := X.x) h
  rcases alt_of hc with ⟨xs, hxs, hc⟩ | hc
  · obtain ⟨ys, hys, hd⟩ := bind_of hc
    rw [beq_dec] at hd
    cases LV.ints?_of hxs
    cases LV.ints?_of hys
    obtain ⟨a1, i1, rfl, _, l1, n1, _⟩ := ra
    obtain ⟨a2, i2, rfl, _, l2, n2, _⟩ := rb
    have l1' : s.heap.IsList a1 i1.toList.toArray := by rw [Array.toArray_toList]; exact l1
    have l2' : s.heap.IsList a2 i2.toList.toArray := by rw [Array.toArray_toList]; exact l2
    cases op <;> cases hd
    · exact eq_intsK l1' n1 l2' n2 hu h
    · exact ne_intsK l1' n1 l2' n2 hu h
  · obtain ⟨xs, hxs, hc⟩ := bind_of hc
    refine bind_el hc fun ys hys hc => ?_
    refine bind_el hc fun p hp hc => ?_
    refine bind_el hc fun q hq hd => ?_
    rw [beq_dec] at hd
    cases LV.tup?_of hxs
    cases LV.tup?_of hys
    obtain ⟨a1, i1, rfl, l1, n1⟩ := ra
    obtain ⟨a2, i2, rfl, l2, n2⟩ := rb
    obtain ⟨as, r1⟩ := reads_tup l1 (ints_of_ats n1 hp)
    obtain ⟨bs, r2⟩ := reads_tup l2 (ints_of_ats n2 hq)
    cases op <;> cases hd
    · exact eq_dataH_same r1 r2 (shaped_tup p) (shaped_tup q) hu (by simp only [PySem.SeqAt.noMix]; exact noMix_ints p q) (by simp only [PySem.Spec.same]; rw [same_ints]; exact h)
    · exact ne_dataH_same r1 r2 (shaped_tup p) (shaped_tup q) hu (by simp only [PySem.SeqAt.noMix]; exact noMix_ints p q) (by simp only [PySem.Spec.same]; rw [same_ints]; exact h)
theorem RV.any {N : Addr → Prop} {h : Heap} {v : LV} {y : Value} (r : RV N h v y) : RV (fun _ => False) h v y := r.weak fun _ _ q => q.elim
theorem g_cmp {op : COp} {a b : LE} (hu : A.units + 64 < cLine) (ga : GoodE X A cf a) (gb : GoodE X A cf b) : GoodE X A cf (.cmp op a b) ∧ GoodT X A cf (.cmp op a b) := by
  have key : ∀ (k : LC) (env : Env) (ρ : LLoc) (hs : Addr → Option Obj) (N₀ W : Addr → Prop) (ex : PySem.Expr) (v : LV), trL X.F k (.cmp op a b) ex = true → evL cf (.cmp op a b) ρ = some v → EnvL env k.vars → KOk k env → ρ.length = k.vars.length →
      ∃ el er p c, ex = .Compare el [op.op] [er] p ∧ plainL er = true ∧ v = .bool c ∧ ∀ (s : Shared) (Q : Value → Shared → Prop) (E' : Value → Shared → Prop), Rd X hs N₀ env k.vars ρ W s.heap → (∀ s', Kg s s' → Q (.bool c) s') →
        wpAny (model X.x.prog X.x.w) A (eval el env) (fun y s₁ => wpAny (model X.x.prog X.x.w) A (eval er env) (fun y₂ s₂ => wpAny (model X.x.prog X.x.w) A (compareOp op.op y y₂) Q E' s₂) E' s₁) E' s := by
    intro k env ρ hs N₀ W ex v ht he EL KO hl
    refine inv_trL_cmp ht fun _ _ _ _ hx₀ ht => ?_
    subst hx₀
    refine and_el ht fun ht hb => ?_
    refine and_el ht fun ht ha => ?_
    refine and_el ht fun ht hp => ?_
    cases beq_iff_eq.mp ht
    refine bind_el he fun x hx he => ?_
    refine bind_el he fun y hy he => ?_
    refine map_el he fun r hr e => ?_
    subst e
    exact ⟨_, _, _, r, rfl, hp, rfl, fun s Q E' R h => ga k env ρ hs N₀ W _ x ha hx EL KO hl s _ _ R fun ya s₁ ra ka => gb k env ρ hs N₀ W _ y hb hy EL KO hl s₁ _ _ (R.grow ka.grow) fun yb s₂ rb kb => cmp_of hu (ra.grow kb.grow).any rb.any hr (h s₂ (ka.trans kb))⟩
  constructor
  · intro k env ρ hs N₀ W ex v ht he EL KO hl s Q E' R h
    obtain ⟨el, er, p, c, rfl, hp, rfl, w⟩ := key k env ρ hs N₀ W ex v ht he EL KO hl
    exact wpAny_Compare1 (w s _ _ R fun s' k' => h _ s' rfl k') (plainL_marks hp op)
  · intro k env ρ hs N₀ W ex v c ht he hc EL KO hl s Q E' R h
    obtain ⟨el, er, p, c', rfl, hp, rfl, w⟩ := key k env ρ hs N₀ W ex v ht he EL KO hl
    (injection hc with hc; subst hc)
    exact wpAny_isTrue_Compare1 (w s _ _ R fun s' k' => wpAny_truthy_bool (h s' k')) (plainL_marks hp op)
end
end Mine

end
section
open PySem PySem.W PyProof.Rows
set_option maxRecDepth 100000
set_option maxHeartbeats 1000000
set_option linter.unusedSimpArgs false
set_option linter.unusedVariables false
set_option linter.unusedSectionVars false
namespace Mine
section
variable {X : LX} {A : Around} {cf : Nat → List LV → Option LV}
theorem or_raw {M : Model} {env : Env} {l r : PySem.Expr} {pos : Pos} {Q : Value → Shared → Prop} {E' : Value → Shared → Prop} {s : Shared}
    (h : wpAny M A (eval l env) (fun v s₁ => ∃ b, v = .bool b ∧ if b then Q (.bool true) s₁ else wpAny M A (eval r env) Q E' s₁) E' s) : wpAny M A (eval (.BoolOp .Or [l, r] pos) env) Q E' s := by
  show wpAny M A (do let v ← eval l env; standAt pos; let t ← holding [v] (truthy v); match BoolOp.Or, t with | .And, false | .Or, true => pure v | _, _ => eval r env) Q E' s
  refine wpAny_bind (wpAny_mono h (fun v s₁ h₁ => wpAny_bind (wpAny_standAt ?_)) fun _ _ x => x)
  obtain ⟨b, rfl, h₁⟩ := h₁
  refine wpAny_bind (wpAny_holding (wpAny_truthy_bool ?_))
  cases b
  · exact h₁
  · exact wpAny_pure h₁
theorem all_Or {M : Model} {env : Env} {l r : PySem.Expr} {Q : Bool → Shared → Prop} {E' : Value → Shared → Prop} {s : Shared}
    (h : wpAny M A (isTrue l env (eval l env)) (fun b s₁ => if b then Q true s₁ else wpAny M A (isTrue r env (eval r env)) Q E' s₁) E' s) : wpAny M A (allTrue .Or [l, r] env) Q E' s := by
  refine wpAny_allTrue_Or_cons (wpAny_mono h (fun b s₁ h₁ => ?_) fun _ _ x => x)
  cases b
  · refine wpAny_allTrue_Or_cons (wpAny_mono h₁ (fun b s₂ h₂ => ?_) fun _ _ x => x)
    cases b
    · exact wpAny_allTrue_Or_nil h₂
    · exact h₂
  · exact h₁
theorem fl_true {N : Addr → Prop} {h : Heap} {v : LV} {y : Value} {b b' : Bool} (r : RV (fl b N) h v y) (hb : b' = true → b = true) : RV (fl b' N) h v y := r.weak fun _ _ q => ⟨hb q.1, q.2⟩
theorem g_or {a b : LE} (ga : GoodE X A cf a) (gb : GoodE X A cf b) (ta : GoodT X A cf a) (tb : GoodT X A cf b) : GoodE X A cf (.or a b) ∧ GoodT X A cf (.or a b) := by
  constructor
  · intro k env ρ hs N₀ W ex v ht he EL KO hl s Q E' R h
    refine inv_trL_or ht fun _ _ _ _ hx₀ ht => ?_
    subst hx₀
    refine and_el ht fun ht hb => ?_
    refine and_el ht fun ht ha => ?_
    refine and_el ht fun ht hs1 => ?_
    cases beq_iff_eq.mp ht
    refine bind_el he fun x hx he => ?_
    refine bind_el he fun q hq he => ?_
    cases LV.bool?_of hq
    refine or_raw (ga k env ρ hs N₀ W _ _ ha hx EL KO hl s _ _ R fun ya s₁ ra ka => ⟨q, ra, ?_⟩)
    cases q
    · exact gb k env ρ hs N₀ W _ _ hb he EL KO hl s₁ _ _ (R.grow ka.grow) fun yb s₂ rb kb => h _ s₂ (fl_true rb fun _ => hs1) (ka.trans kb)
    · (injection he with he; subst he); exact h _ s₁ rfl ka
  · intro k env ρ hs N₀ W ex v c ht he hc EL KO hl s Q E' R h
    refine inv_trL_or ht fun _ _ _ _ hx₀ ht => ?_
    subst hx₀
    refine and_el ht fun ht hb => ?_
    refine and_el ht fun ht ha => ?_
    refine and_el ht fun ht hs1 => ?_
    cases beq_iff_eq.mp ht
    refine bind_el he fun x hx he => ?_
    refine bind_el he fun q hq he => ?_
    cases LV.bool?_of hq
    refine wpAny_isTrue_BoolOp (all_Or (ta k env ρ hs N₀ W _ _ q ha hx rfl EL KO hl s _ _ R fun s₁ ka => ?_))
    cases q
    · exact tb k env ρ hs N₀ W _ _ c hb he hc EL KO hl s₁ _ _ (R.grow ka.grow) fun s₂ kb => h s₂ (ka.trans kb)
    · (injection he with he; subst he); (injection hc with hc; subst hc); exact h s₁ ka
theorem g_not {a : LE} (ga : GoodE X A cf a) (ta : GoodT X A cf a) : GoodE X A cf (.not a) ∧ GoodT X A cf (.not a) := by
  constructor
  · intro k env ρ hs N₀ W ex v ht he EL KO hl s Q E' R h
    refine inv_trL_not ht fun _ _ _ hx₀ ht => ?_
    subst hx₀
    refine and_el ht fun ht ha => ?_
    cases beq_iff_eq.mp ht
    refine bind_el he fun x hx he => ?_
    refine map_el he fun b hb e => ?_
    subst e
    exact UnaryOp_ (ga k env ρ hs N₀ W _ _ ha hx EL KO hl s _ _ R fun ya s₁ ra ka => not_of (truthyL_of ra hb fun s₂ kb => h _ s₂ rfl (ka.trans kb)))
  · intro k env ρ hs N₀ W ex v c ht he hc EL KO hl s Q E' R h
    refine inv_trL_not ht fun _ _ _ hx₀ ht => ?_
    subst hx₀
    refine and_el ht fun ht ha => ?_
    cases beq_iff_eq.mp ht
    refine bind_el he fun x hx he => ?_
    refine map_el he fun b hb e => ?_
    subst e
    (injection hc with hc; subst hc)
    rw [arm_isTrue_UnaryOp]
    exact wpAny_bind (ta k env ρ hs N₀ W _ _ b ha hx hb EL KO hl s _ _ R fun s₁ ka => wpAny_pure (h s₁ ka))
theorem g_ife {t a b : LE} (tt : GoodT X A cf t) (ga : GoodE X A cf a) (gb : GoodE X A cf b) : GoodE X A cf (.ife t a b) := by
  intro k env ρ hs N₀ W ex v ht he EL KO hl s Q E' R h
  refine inv_trL_ife ht fun _ _ _ _ hx₀ ht => ?_
  subst hx₀
  refine and_el ht fun ht hb => ?_
  refine and_el ht fun hx ha => ?_
  refine bind_el he fun x ex he => ?_
  refine bind_el he fun q hv he => ?_
  refine wpAny_IfExp (tt k env ρ hs N₀ W _ _ q hx ex hv EL KO hl s _ _ R fun s₁ ka => ?_)
  cases q
  · exact gb k env ρ hs N₀ W _ _ hb he EL KO hl s₁ _ _ (R.grow ka.grow) fun yb s₂ rb kb => h _ s₂ (fl_true rb fun q => (Bool.and_eq_true_iff.mp q).2) (ka.trans kb)
  · exact ga k env ρ hs N₀ W _ _ ha he EL KO hl s₁ _ _ (R.grow ka.grow) fun yb s₂ rb kb => h _ s₂ (fl_true rb fun q => (Bool.and_eq_true_iff.mp q).1) (ka.trans kb)
theorem pick_of {α : Type} {l : List α} {k : Int} {x : α} (h : pick l k = some x) : (0 ≤ k ∧ l[k.toNat]? = some x ∧ k.toNat < l.length) ∨ (k < 0 ∧ -(l.length : Int) ≤ k ∧ l[(k + l.length).toNat]? = some x) := by
  unfold pick at h
  split at h
  · rename_i q; exact .inl ⟨q, h, (List.getElem?_eq_some_iff.mp h).1⟩
  · rename_i q
    split at h
    · rename_i q'; exact .inr ⟨by omega, by omega, h⟩
    · injection h
theorem item_any {s : Shared} {a : Addr} {items : Array Value} {k : Int} {u : Tok} {value e : PySem.Expr} {x : Value} (hl : s.heap.IsList a items) (hz : items.size ≤ lim) (hk : pick items.toList k = some x) (he : plainL e = true) {Q : Value → Shared → Prop} {E' : Value → Shared → Prop}
    (hq : Q x s) : wpAny (model X.x.prog X.x.w) A (subscriptTail value e (.ref a) (.int k u)) Q E' s := by
  have h63 := lim_63 hz
  refine tail_any hl.typeIs slot_list_getitem.lookup ?_ (plainL_sub he _ _)
  rcases pick_of hk with ⟨h0, hx, hlt⟩ | ⟨h0, h1, hx⟩
  · rw [Array.length_toList] at hlt
    exact wpAny_getItem_list hl h0 (by omega) (by rw [← Array.getElem?_toList]; exact hx) hq
  · rw [Array.length_toList] at h1 hx
    exact wpAny_getItem_list_neg hl h0 h1 (by omega) (by rw [← Array.getElem?_toList]; exact hx) hq
theorem pick_map {α β : Type} {F : α → β → Prop} {l₁ : List α} {l₂ : List β} (p : Paired F l₁ l₂) {k : Int} {x : α} (h : pick l₁ k = some x) : ∃ y, pick l₂ k = some y ∧ F x y := by
  have gt : ∀ {l₁ : List α} {l₂ : List β}, Paired F l₁ l₂ → ∀ (i : Nat) (x : α), l₁[i]? = some x → ∃ y, l₂[i]? = some y ∧ F x y := by
    intro l₁ l₂ p
    induction p with
    | nil => intro i x h; simp at h
    | cons hab t ih =>
      intro i x h
      cases i with
      | zero => simp at h; subst h; exact ⟨_, rfl, hab⟩
      | succ i => simpa using ih i x (by simpa using h)
  have hlen := p.length
  rcases pick_of h with ⟨h0, hx, hlt⟩ | ⟨h0, h1, hx⟩
  · obtain ⟨y, hy, r⟩ := gt p _ _ hx
    exact ⟨y, by unfold pick; rw [if_pos h0]; exact hy, r⟩
  · obtain ⟨y, hy, r⟩ := gt p _ _ hx
    refine ⟨y, ?_, r⟩
    unfold pick
    rw [if_neg (by omega), if_pos (by omega), ← hlen]; exact hy
theorem ints_paired : ∀ {vs : List Value} {ns : List Int}, IntsAre vs ns → Paired (fun n v => ∃ t, v = Value.int n t) ns vs
  | _, _, .nil => .nil
  | _, _, .cons k t r => .cons ⟨t, rfl⟩ (ints_paired r)
theorem idx_of {s : Shared} {N : Addr → Prop} {x y r : LV} {a b : Value} {value e : PySem.Expr} (ra : RV N s.heap x a) (rb : RV (fun _ => False) s.heap y b) (hr : idxV x y = some r) (he : plainL e = true) {Q : Value → Shared → Prop} {E' : Value → Shared → Prop}
    (h : ∀ z, RV N s.heap r z → Q z s) : wpAny (model X.x.prog X.x.w) A (subscriptTail value e a b) Q E' s := by
  refine bind_el hr fun k hk hr => ?_
  have hk := LV.int?_of hk
  obtain ⟨t, rfl⟩ : ∃ t, b = .int k t := by rw [hk] at rb; exact rb
  have key : ∀ {α : Type} {F : α → Value → Prop} {xs : List α} {c : Addr} {its : Array Value}, s.heap.IsList c its → Paired F xs its.toList → xs.length ≤ lim → ∀ {n : α}, pick xs k = some n → (∀ z, F n z → Q z s) → wpAny (model X.x.prog X.x.w) A (subscriptTail value e (.ref c) (.int k t)) Q E' s := by
    intro α F xs c its l p z n hn h'
    obtain ⟨w, hw, q⟩ := pick_map p hn
    exact item_any l (by rw [← Array.length_toList, ← p.length]; exact z) hw he (h' _ q)
  rcases alt_of hr with ⟨xs, hx, hr⟩ | hr
  · obtain ⟨n, hn, e'⟩ := map_of hr
    subst e'
    cases LV.ints?_of hx
    obtain ⟨c, its, rfl, _, l, i, z⟩ := ra
    exact key l (ints_paired i) z hn h
  rcases alt_of hr with ⟨xs, hx, hr⟩ | hr
  · obtain ⟨n, hn, e'⟩ := map_of hr
    subst e'
    cases LV.lists?_of hx
    obtain ⟨c, its, rfl, _, l, i, z⟩ := ra
    exact key l i z hn h
  · obtain ⟨xs, hx, hr⟩ := bind_of hr
    obtain ⟨n, hn, e'⟩ := map_of hr
    subst e'
    cases LV.rows?_of hx
    obtain ⟨c, its, rfl, _, l, i, z⟩ := ra
    exact key l i z hn h
theorem own_idx {w : Nat} {ρ : LLoc} {x y r : LV} (hx : evL cf (.own w) ρ = some x) (hr : idxV x y = some r) : ∃ n, r = .int n := by
  refine bind_el hx fun u _ hx => ?_
  refine map_el hx fun xs _ e => ?_
  subst e
  refine bind_el hr fun k _ hr => ?_
  refine map_el hr fun n _ e => ?_
  exact ⟨n, e.symm⟩
theorem g_idx {a i : LE} (ga : GoodE X A cf a) (gi : GoodE X A cf i) : GoodE X A cf (.idx a i) := by
  intro k env ρ hs N₀ W ex v ht he EL KO hl s Q E' R h
  refine inv_trL_idx ht fun _ _ _ hx₀ ht => ?_
  subst hx₀
  refine and_el ht fun ht hi => ?_
  refine and_el ht fun hp ha => ?_
  refine bind_el he fun x hx hv => ?_
  refine bind_el hv fun y hy hv => ?_
  clear he
  refine Subscript_ (ga k env ρ hs N₀ W _ x ha hx EL KO hl s _ _ R fun ya s₁ ra ka => gi k env ρ hs N₀ W _ y hi hy EL KO hl s₁ _ _ (R.grow ka.grow) fun yb s₂ rb kb => ?_)
  refine idx_of (ra.grow kb.grow) rb.any hv hp fun z rz => h z s₂ ?_ (ka.trans kb)
  cases hst : stb a with
  | true => rw [hst] at rz; exact fl_true rz fun _ => rfl
  | false =>
    cases a with
    | own w =>
      obtain ⟨n, rfl⟩ := own_idx hx hv
      exact rz
    | _ => exact fl_true rz fun q => q
end
end Mine

end
section
open PySem PySem.W PyProof.Rows
set_option maxRecDepth 100000
set_option maxHeartbeats 1000000
set_option linter.unusedSimpArgs false
set_option linter.unusedVariables false
set_option linter.unusedSectionVars false
namespace Mine
section
variable {X : LX} {A : Around} {cf : Nat → List LV → Option LV}
end
end Mine

end
section
open PySem PySem.W PyProof.Rows
set_option maxRecDepth 100000
set_option maxHeartbeats 1000000
set_option linter.unusedSimpArgs false
set_option linter.unusedVariables false
set_option linter.unusedSectionVars false
namespace Mine
section
variable {X : LX} {A : Around} {cf : Nat → List LV → Option LV}
theorem part_of {s : Shared} {N : Addr → Prop} {v : LV} {y : Value} {p : Option Int} (r : RV N s.heap v y) (h : part v = some p) : IsPart y p := by
  cases v with
  | «at» a =>
    cases a <;> cases h
    · obtain ⟨t, rfl⟩ := r; exact .int _ _
    · obtain rfl := r; exact .none
  | _ => injection h
theorem ints_take : ∀ {vs : List Value} {ns : List Int} (_ : IntsAre vs ns) (n : Nat), IntsAre (vs.take n) (ns.take n)
  | _, _, _, 0 => .nil
  | _, _, .nil, _ + 1 => .nil
  | _, _, .cons k t r, n + 1 => .cons k t (ints_take r n)
theorem ints_drop : ∀ {vs : List Value} {ns : List Int} (_ : IntsAre vs ns) (n : Nat), IntsAre (vs.drop n) (ns.drop n)
  | _, _, h, 0 => h
  | _, _, .nil, _ + 1 => .nil
  | _, _, .cons k t r, n + 1 => ints_drop r n
theorem ints_cut {its : Array Value} {xs : List Int} (h : IntsAre its.toList xs) (lo hi : Option Int) : IntsAre (slicePick its lo hi none).toList (cutI xs lo hi) := by
  rw [slicePick_plain]
  unfold cutI
  rw [ints_len h]
  exact ints_take (ints_drop h _) _
theorem cut_len (xs : List Int) (lo hi : Option Int) : (cutI xs lo hi).length ≤ xs.length := by
  unfold cutI
  rw [List.length_take, List.length_drop]
  omega
theorem opt_good {e : LE} (g : GoodE X A cf e) (k : LC) (env : Env) (ρ : LLoc) (hs : Addr → Option Obj) (N₀ W : Addr → Prop) (o : Option PySem.Expr) (v : LV) (ht : (match o with | Option.none => isNoneE e | some x => trL X.F k e x) = true) (he : evL cf e ρ = some v) (EL : EnvL env k.vars) (KO : KOk k env) (hl : ρ.length = k.vars.length)
    (s : Shared) (Q : Value → Shared → Prop) (E' : Value → Shared → Prop) (R : Rd X hs N₀ env k.vars ρ W s.heap) (h : ∀ y s', RV (fun _ => False) s'.heap v y → Kg s s' → Q y s') : wpAny (model X.x.prog X.x.w) A (evalPart o env) Q E' s := by
  cases o with
  | none =>
    have : e = .none := by cases e <;> first | rfl | injection ht
    subst this
    (injection he with he; subst he)
    rw [evalPart_none]
    exact wpAny_pure (h _ s rfl .refl)
  | some x =>
    rw [evalPart_some]
    exact g k env ρ hs N₀ W x v ht he EL KO hl s Q E' R fun y s' r k' => h y s' r.any k'
theorem g_slc {a lo hi : LE} (ga : GoodE X A cf a) (gl : GoodE X A cf lo) (gh : GoodE X A cf hi) : GoodF X A cf (.slc a lo hi) := by
  intro k env ρ hs N₀ W ex v ht he EL KO hl s Q E' R h
  refine inv_trL_slc ht fun _ _ _ _ _ _ hx₀ ht => ?_
  subst hx₀
  refine and_el ht fun ht h2 => ?_
  refine and_el ht fun ht h1 => ?_
  refine and_el ht fun ht ha => ?_
  cases Option.isNone_iff_eq_none.mp ht
  refine bind_el he fun x hx he => ?_
  refine bind_el he fun l hlo he => ?_
  refine bind_el he fun u hup he => ?_
  refine bind_el he fun xs hxs he => ?_
  refine bind_el he fun p1 hp1 he => ?_
  refine map_el he fun p2 hp2 e => ?_
  subst e
  cases LV.ints?_of hxs
  refine Subscript_ (ga k env ρ hs N₀ W _ _ ha hx EL KO hl s _ _ R fun ya s₁ ra ka => wpAny_Slice (opt_good gl k env ρ hs N₀ W _ l h1 hlo EL KO hl s₁ _ _ (R.grow ka.grow) fun yl s₂ rl kl =>
    opt_good gh k env ρ hs N₀ W _ u h2 hup EL KO hl s₂ _ _ (R.grow (ka.trans kl).grow) fun yu s₃ ru ku => ?_))
  rw [evalPart_none]
  refine wpAny_pure ?_
  obtain ⟨b, its, rfl, _, lb, ib, zb⟩ := (ra.grow kl.grow).grow ku.grow
  have kk := ((ka.trans kl).trans ku).trans (Kg.push' (s := s₃) (o := { cls := .type "slice", data := .fields #[yl, yu, .none] }))
  have lp := lb.push { cls := .type "slice", data := .fields #[yl, yu, .none] }
  refine tail_any lp.typeIs slot_list_getitem.lookup (wpAny_getItem_list_slice lp (Heap.IsSliceOf.new ..) (part_of (rl.grow ku.grow) hp1) (part_of ru hp2) .none (by simp) ?_ (by rw [ints_len ib]; exact Nat.le_trans zb lim_size)) (ops := [.ref s₃.heap.objs.size, .ref b]) rfl
  have e : slicePick its p1 p2 none = (slicePick its p1 p2 none).toList.toArray := by rw [Array.toArray_toList]
  rw [e]
  exact h _ _ (fresh_ints (R.grow kk.grow).lists (ints_cut ib p1 p2) (Nat.le_trans (cut_len _ _ _) zb)) (kk.trans .push') (fun a q => by (injection q with q; subst q); exact ⟨kk.fresh, _, Heap.get?_push_size _ rfl, rfl⟩)
theorem blt1 (OK : LOk X) {k : LC} {env : Env} (EL : EnvL env k.vars) (KO : KOk k env) {hs : Addr → Option Obj} {N₀ W : Addr → Prop} {ρ : LLoc} {s : Shared} (R : Rd X hs N₀ env k.vars ρ W s.heap) {n : Str} {nm : String} (hb : (n, .builtin nm) ∈ bltT) (hd : (n == ("__debug__" : Str)) = false) (hg : k.isGlob n = true) {q : Pos} {e : PySem.Expr} {p : Pos} (hp : plainL e = true)
    {Q : Value → Shared → Prop} {E' : Value → Shared → Prop} (h : wpAny (model X.x.prog X.x.w) A (eval e env) (fun y s₁ => wpAny (model X.x.prog X.x.w) A (call (.builtin nm) [y]) Q E' s₁) E' s) : wpAny (model X.x.prog X.x.w) A (eval (.Call (.Name n q) [e] [] p) env) Q E' s := by
  obtain ⟨b1, b2⟩ := OK.blt n _ hb
  exact wpAny_Call_NameR (load_builtin EL (OK.g.keeps R.base) (OK.b.keeps R.base) (KO.g _ (isGlob_of hg)) b1 b2 hd (PyProof.Rows.callWith_builtin1 (args_cons (wpAny_mono h (fun y s₁ h₁ => args_nil h₁) fun _ _ x => x) (plainL_star hp env [])) (plainL_star hp env []) rfl))
theorem g_len (OK : LOk X) {a : LE} (ga : GoodE X A cf a) : GoodE X A cf (.len a) := by
  intro k env ρ hs N₀ W ex v ht he EL KO hl s Q E' R h
  refine inv_trL_len ht fun _ _ _ _ hx₀ ht => ?_
  subst hx₀
  refine and_el ht fun ht ha => ?_
  refine and_el ht fun ht hp => ?_
  refine and_el ht fun ht hg => ?_
  cases beq_iff_eq.mp ht
  refine bind_el he fun x hx he => ?_
  refine map_el he fun xs hxs e => ?_
  subst e
  cases LV.ints?_of hxs
  refine blt1 OK EL KO R (.head _) (by decide) hg hp (ga k env ρ hs N₀ W _ _ ha hx EL KO hl s _ _ R fun ya s₁ ra ka => ?_)
  obtain ⟨b, its, rfl, _, lb, ib, zb⟩ := ra
  have hz := ints_len ib
  exact len_list lb (lim_63 (by rw [hz]; exact zb)) (by rw [hz]; exact h _ _ ⟨_, rfl⟩ (ka.trans .tok))
theorem mapO_paired {α β γ : Type} {F : α → γ → Prop} {G : β → γ → Prop} {f : α → Option β} (hf : ∀ a b c, f a = some b → F a c → G b c) {l : List α} {r : List β} {cs : List γ} (h : mapO f l = some r) (p : Paired F l cs) : Paired G r cs := by
  induction p generalizing r with
  | nil => (injection h with h; subst h); exact .nil
  | cons q _ ih =>
    refine bind_el h fun b hb h => ?_
    refine map_el h fun rs hr e => ?_
    subst e
    exact .cons (hf _ _ _ hb q) (ih hr)
theorem mapO_len {α β : Type} {f : α → Option β} : ∀ {l : List α} {r : List β}, mapO f l = some r → r.length = l.length
  | [], _, h => by (injection h with h; subst h); rfl
  | a :: l, r, h => by
    refine bind_el h fun b hb h => ?_
    refine map_el h fun rs hr e => ?_
    subst e
    exact congrArg (· + 1) (mapO_len hr)
theorem paired_ints {N : Addr → Prop} {h : Heap} {xs : List Int} {vs : List Value} (p : Paired (fun n v => RA N h (.int n) v) xs vs) : IntsAre vs xs := by
  induction p with
  | nil => exact .nil
  | cons r _ ih => obtain ⟨t, rfl⟩ := r; exact .cons _ t ih
theorem g_disp {es : LEs} (ge : GoodEs X A cf es) : GoodF X A cf (.disp es) := by
  intro k env ρ hs N₀ W ex v ht he EL KO hl s Q E' R h
  refine inv_trL_disp ht fun _ _ hx₀ ht => ?_
  subst hx₀
  refine bind_el he fun vs hv he => ?_
  obtain ⟨hz, he⟩ := ite_of he
  refine wpAny_List (ge k env ρ hs N₀ W _ vs _ ht hv EL KO hl s _ _ R fun ys s' p k' => ?_)
  have hlen : ys.length = vs.length := p.length.symm
  refine ⟨by rw [hlen]; exact Nat.le_trans hz lim_size, ?_⟩
  have L' := (R.grow k'.grow).lists
  have gr : Grow s'.heap (s'.heap.push { cls := .type "list", data := .seq ys.toArray }) := fun _ _ e => Heap.get?_push_of_some _ e
  have nf : ¬ fl (stb.stbs es) (nn N₀ W) s'.heap.objs.size := fun q => fresh_notin L' fresh_size q.2
  have up := k'.trans (Kg.push' (s := s') (o := { cls := .type "list", data := .seq ys.toArray }))
  have nw : NewP s.heap (s'.heap.push { cls := .type "list", data := .seq ys.toArray }) (.ref s'.heap.objs.size) := fun a q => by (injection q with q; subst q); exact ⟨k'.fresh, _, Heap.get?_push_size _ rfl, rfl⟩
  have ls : (s'.heap.push { cls := .type "list", data := .seq ys.toArray }).IsList s'.heap.objs.size ys.toArray := ⟨_, Heap.get?_push_size _ rfl, rfl, _, rfl⟩
  rcases alt_of he with ⟨xs, hx, e⟩ | he
  · (injection e with e; subst e)
    exact h _ _ (fresh_ints L' (paired_ints (N := fun _ => False) (h := s'.heap) (mapO_paired (fun a b c hf q => by cases LV.int?_of hf; exact q) hx p)) (by rw [mapO_len hx]; exact hz)) up nw
  rcases alt_of he with ⟨xs, hx, e⟩ | he
  · (injection e with e; subst e)
    exact h _ _ ⟨_, ys.toArray, rfl, nf, ls, mapO_paired (fun a b c hf q => by cases LV.tup?_of hf; exact RT.grow q gr) hx p, by rw [mapO_len hx]; exact hz⟩ up nw
  · obtain ⟨xs, hx, e⟩ := map_of he
    subst e
    exact h _ _ ⟨_, ys.toArray, rfl, nf, ls, mapO_paired (fun a b c hf q => by cases LV.ints?_of hf; exact RA.grow q gr) hx p, by rw [mapO_len hx]; exact hz⟩ up nw
theorem g_tup {es : LEs} (ge : GoodEs X A cf es) : GoodE X A cf (.tup es) := by
  intro k env ρ hs N₀ W ex v ht he EL KO hl s Q E' R h
  refine inv_trL_tup ht fun _ _ _ hx₀ ht => ?_
  subst hx₀
  refine bind_el he fun vs hv he => ?_
  obtain ⟨hz, he⟩ := ite_of he
  refine map_el he fun xs hx e => ?_
  subst e
  refine wpAny_Tuple (ge k env ρ hs N₀ W _ vs _ ht hv EL KO hl s _ _ R fun ys s' p k' => ?_)
  have hlen : ys.length = vs.length := p.length.symm
  refine ⟨by rw [hlen]; exact Nat.le_trans hz lim_size, ?_⟩
  have gr : Grow s'.heap (s'.heap.push { cls := .type "tuple", data := .seq ys.toArray }) := fun _ _ e => Heap.get?_push_of_some _ e
  exact h _ _ ⟨_, ys.toArray, rfl, ⟨_, Heap.get?_push_size _ rfl, rfl, _, rfl⟩, mapO_paired (fun a b c hf q => by cases LV.at?_of hf; exact RA.grow q gr) hx p⟩ (k'.trans .push')
theorem M.get_mem (σ : M) (xs : List Int) (f : Fld) : ({ σ with mem := xs } : M).get f = σ.get f := by cases f <;> rfl
theorem Mr.apart {x : Cx} {σ : M} {h : Heap} (m : Mr x σ h) : x.D ≠ x.L := by
  obtain ⟨mm, n, _⟩ := m.ns
  obtain ⟨o, es, ep, e, d⟩ := ns_kind n.ns
  obtain ⟨its, ⟨o2, k2, e2, c2, _, d2⟩, _⟩ := m.mem
  intro q
  rw [q, e2] at e; (injection e with e; subst e); rw [d2] at d; injection d
theorem g_attr (OK : LOk X) (v : Nat) (f : Fld) : GoodE X A cf (.attr v f) := by
  intro k env ρ hs N₀ W ex u ht he EL KO hl s Q E' R h
  refine inv_trL_attr ht fun _ _ _ _ hx₀ ht => ?_
  subst hx₀
  refine and_el ht fun hv ht => ?_
  cases beq_iff_eq.mp ht
  refine bind_el he fun w hw he => ?_
  obtain ⟨⟨σ, mv⟩, hp, he⟩ := bind_of he
  refine map_el he fun i hi e => ?_
  subst e
  cases LV.mpu?_of hp
  obtain ⟨I, D, L, xs, nm, a, m⟩ := R.mach _ _ _ _ (isVarL_of hv) hw
  have hg' : ({ σ with mem := xs } : M).get f = .int i := (M.get_mem σ xs f).trans (V.int?_of hi)
  refine Attribute_Name_ (load_at EL (isVarL_of hv) a (get_fld (x := X.at I D L) (OK.ok I D L m.d0 m.l0 m.mr.apart) m.mr f (hg' ▸ fun q => nomatch q) fun y r => h y _ ?_ .tok))
  rw [hg'] at r
  exact r
theorem attrs_eval {I D L : Addr} {σ : M} (O : Ok (X.at I D L)) {A : Around} {env : Env} {vars : List Str} (EL : EnvL env vars) {i : Nat} (hi : vars[i]? = some "mpu") {E' : Value → Shared → Prop} {pos : Pos} : ∀ (fs : List Fld) (l : List PySem.Expr) (is : List Int) (s : Shared) (Q : List Value → Shared → Prop), attrsB fs l = true → mapO (fun f => (σ.get f).int?) fs = some is →
    VarAt env s.heap "mpu" (.ref I) → Mr (X.at I D L) σ s.heap → (∀ ys t, Paired (fun n v => ∃ t, v = Value.int n t) is ys → Q ys { s with toks := t }) → wpAny (model X.x.prog X.x.w) A (spliced (backTo pos (starEach l env))) Q E' s
  | [], [], is, s, Q, _, e, _, _, h => by
    (injection e with e; subst e)
    exact args_nil (h [] s.toks .nil)
  | [], _ :: _, _, _, _, h, _, _, _, _ => by injection h
  | f :: fs, l, is, s, Q, ht, e, va, Mm, h => by
    revert h
    apply o_cons_elim ht; intro y l ht
    apply o_Attribute_elim ht; intro b a p ht
    apply o_Name_elim ht; intro n q ht
    intro h
    refine and_el ht fun ht h3 => ?_
    refine and_el ht fun h1 h2 => ?_
    cases beq_iff_eq.mp h1
    cases beq_iff_eq.mp h2
    refine bind_el e fun v hv e => ?_
    refine map_el e fun vs hvs e => ?_
    subst e
    have hg := V.int?_of hv
    refine args_cons (Attribute_Name_ (load_at EL hi va (get_fld (x := X.at I D L) O Mm f (hg ▸ fun q => nomatch q) fun y r => ?_))) (by rfl)
    rw [hg] at r
    exact attrs_eval O EL hi fs l vs _ _ h3 hvs va Mm fun ys t p => h (y :: ys) t (.cons r p)
theorem g_told (OK : LOk X) {d : Nat} (ao : AOk A (d + 1)) (v : Nat) : GoodE X A cf (.told v) := by
  intro k env ρ hs N₀ W ex u ht he EL KO hl s Q E' R h
  refine inv_trL_told ht fun _ _ _ _ _ hx₀ ht => ?_
  subst hx₀
  refine and_el ht fun ht hv => ?_
  refine and_el ht fun hn hg => ?_
  cases beq_iff_eq.mp hn
  refine bind_el he fun w hw he => ?_
  obtain ⟨⟨σ, mv⟩, hp, he⟩ := bind_of he
  refine map_el he fun is hi e => ?_
  subst e
  cases LV.mpu?_of hp
  obtain ⟨I, D, L, xs, nm, a, m⟩ := R.mach _ _ _ _ (isVarL_of hv) hw
  obtain ⟨fa, o, fdt, hmg, ho, hd, hcd, hB⟩ := OK.told
  obtain ⟨F0, l, q, r, p, hbody, hB⟩ := told_of hB
  have hi' : mapO (fun f => (({ σ with mem := xs } : M).get f).int?) toldF = some is := hi
  have O := OK.ok I D L m.d0 m.l0 m.mr.apart
  refine wpAny_Call_NameR (load_global EL (OK.g.keeps R.base) (KO.g _ (isGlob_of hg)) hmg (by decide) ?_)
  refine callWith_def hd (args_cons (load_at EL (isVarL_of hv) a (args_nil ⟨R.base _ _ ho, wpAny_call ?_⟩)) (by rfl)) (by rfl)
  refine codeAny_call_def (binds := [("mpu", .ref I)]) (by have := ao.dp; omega) (R.base _ _ ho) hd (OK.lim.keeps R.base) (hcd.keeps R.base) hbody (BindsTo.of_eq (bind_plain F0.args (by decide) rfl)) F0.nc (fun x hx => by rw [List.mem_singleton.mp hx]; exact F0.loc _ (.head _)) (fun h₁ ns hk => ?_) F0.co F0.gen F0.kind
  have EL' : EnvL (callEnv fdt s.heap.objs.size fa) ["mpu"] := ⟨F0.kind, F0.glob, F0.blt, fun v hv => by rw [List.mem_singleton.mp hv]; decide⟩
  refine wpAny_execs_cons (wpAny_Return_some (wpAny_Tuple (attrs_eval O EL' (i := 0) rfl toldF l is _ _ hB hi' (.inl ⟨F0.loc _ (.head _), _, ns, rfl⟩) (m.mr.grow hk) fun ys t p => ?_)))
  have hz : ys.length = is.length := p.length.symm
  have hz2 : is.length = 7 := mapO_len hi
  refine ⟨by rw [hz, hz2]; exact Nat.le_trans (by decide : 7 ≤ lim) lim_size, ?_⟩
  refine h _ _ ⟨_, ys.toArray, rfl, ⟨_, Heap.get?_push_size _ rfl, rfl, _, rfl⟩, ?_⟩ ⟨_, _, rfl, fun b o e => Heap.get?_push_of_some _ (hk b o e)⟩
  have go : ∀ {is : List Int} {ys : List Value} {N : Addr → Prop} {h : Heap}, Paired (fun n v => ∃ t, v = Value.int n t) is ys → Paired (RA N h) (is.map At.int) ys := by
    intro is ys N h p
    induction p with
    | nil => exact .nil
    | cons r _ ih => exact .cons r ih
  exact go p
end
end Mine

end
section
open PySem PySem.W PyProof.Rows
set_option maxRecDepth 100000
set_option maxHeartbeats 1000000
set_option linter.unusedSimpArgs false
set_option linter.unusedVariables false
set_option linter.unusedSectionVars false
namespace Mine
section
variable {X : LX} {A : Around} {cf : Nat → List LV → Option LV}
end
end Mine

end
section
open PySem PySem.W PyProof.Rows
set_option maxRecDepth 100000
set_option maxHeartbeats 1000000
set_option linter.unusedSimpArgs false
set_option linter.unusedVariables false
set_option linter.unusedSectionVars false
namespace Mine
section
variable {X : LX} {A : Around} {cf : Nat → List LV → Option LV}
theorem go_range {s : Shared} {I : Addr} {x l c : Int} {T : Addr} {elts : List PySem.Expr} {j : Nat} {pos : Pos} {Q : Unit → Shared → Prop} {E : Value → Shared → Prop} (hit : IsRangeIter s.heap I x l c) (hQ : Q () s) :
    wpAny (model X.x.prog X.x.w) A (letOwnedTupleGo (.Tuple elts j pos) (.ref I) (.ref T)) Q E s := by
  unfold letOwnedTupleGo
  refine wpAny_bind (wpAny_load hit ?_)
  show wpAny _ A (if (["enumerate", "zip", "dict_itemiterator", "dict_reverseitemiterator", "odict_iterator", "itertools.zip_longest", "itertools.pairwise"].contains "range_iterator" && _ == some (rawInt T)) = true then _ else _) Q E s
  rw [if_neg (by
    intro h
    rw [show (["enumerate", "zip", "dict_itemiterator", "dict_reverseitemiterator", "odict_iterator", "itertools.zip_longest", "itertools.pairwise"].contains "range_iterator") = false from by decide, Bool.false_and] at h
    injection h)]
  exact wpAny_pure hQ
theorem paired_at {α β : Type} {F : α → β → Prop} {l₁ : List α} {l₂ : List β} (p : Paired F l₁ l₂) : ∀ (i : Nat) (y : β), l₂[i]? = some y → ∃ x, l₁[i]? = some x ∧ F x y := by
  induction p with
  | nil => intro i y h; injection h
  | cons r _ ih =>
    intro i y h
    cases i with
    | zero => (injection h with h; subst h); exact ⟨_, rfl, r⟩
    | succ i => exact ih i y h
theorem src_list {s s₁ : Shared} {N₀ W : Addr → Prop} {a : Addr} {its : Array Value} {items : List LV} (hh : A.handled = none) (x : Lists (nn N₀ W) s.heap) (k : Kg s s₁) (na : ¬ nn N₀ W a) (hl : s₁.heap.IsList a its) (p : Paired (RV (nn N₀ W) s₁.heap) items its.toList) (hz : items.length ≤ lim) :
    SrcIt X A N₀ W s items (.ref s₁.heap.objs.size) { s₁ with heap := s₁.heap.push { cls := .type "list_iterator", data := .fields #[.ref a, .int 0 0] } } := by
  have hlt : a < s₁.heap.objs.size := by obtain ⟨o, e, _⟩ := hl; exact Heap.lt_size e
  have gr : Grow s₁.heap (s₁.heap.push { cls := .type "list_iterator", data := .fields #[.ref a, .int 0 0] }) := fun _ _ e => Heap.get?_push_of_some _ e
  have hsz : its.size = items.length := by rw [p.length, Array.length_toList]
  have W0 := Walks.list (prog := X.x.prog) (w := X.x.w) hh s₁.heap.objs.size a (Nat.ne_of_lt hlt) its
  rw [hsz] at W0
  refine ⟨_, _, _, _, s₁.heap, rfl, hz, W0, ⟨⟨_, Heap.get?_push_size _ rfl, rfl, rfl⟩, hl.push _⟩, fresh_size, k.grow, gr, k.trans .push', ⟨_, Heap.get?_push_size _ rfl⟩, ?_, ?_, ?_, ?_, ?_⟩
  · intro b hb
    rcases List.mem_cons.mp hb with rfl | hb
    · exact .inl rfl
    · rw [List.mem_singleton.mp hb]
      obtain ⟨o, e, st, _⟩ := list_store hl
      exact .inr ⟨o, e, st, fun w => na (.inr w)⟩
  · intro i v hv
    obtain ⟨lv, e, r⟩ := paired_at p i v (by simpa using hv)
    exact ⟨lv, e, r⟩
  · intro i h b o st hb e
    rcases List.mem_cons.mp hb with rfl | hb
    · obtain ⟨o', e', c, d⟩ := st.1
      rw [e] at e'; (injection e' with e'; subst e'); unfold isStore; rw [d]; exact tabb_c (by rw [c]; exact fun q => nomatch q)
    · rw [List.mem_singleton.mp hb] at e
      obtain ⟨o', e', st', _⟩ := list_store st.2
      rw [e] at e'; (injection e' with e'; subst e'); exact st'
  · intro i h st
    obtain ⟨o', e', c, d⟩ := st.1
    refine ⟨o', _, e', d, ?_, ?_, fun q t z => ?_⟩
    · rw [c]; intro q; injection q with z; exact absurd z (by decide)
    · rw [c]; exact fun q => (nomatch q)
    · cases z
  · intro i s' T elts j pos Q E st hQ
    exact wpAny_letOwnedTupleGo_listiter st.1 hQ
theorem paired_map {α β γ : Type} {F : α → γ → Prop} {G : β → γ → Prop} {f : α → β} (h : ∀ a c, F a c → G (f a) c) {l : List α} {cs : List γ} (p : Paired F l cs) : Paired G (l.map f) cs := by
  induction p with
  | nil => exact .nil
  | cons r _ ih => exact .cons (h _ _ r) ih
theorem g_lst (hh : A.handled = none) {e : LE} (ge : GoodE X A cf e) : GoodS X A cf (.lst e) := by
  intro k env ρ hs N₀ W ex items ht he EL KO hl s Q E' R h
  refine and_el ht fun ht hx => ?_
  refine and_el ht fun _ hst => ?_
  refine bind_el he fun v hv hi => ?_
  refine ge k env ρ hs N₀ W _ v hx hv EL KO hl s _ _ R fun y s₁ r k₁ => ?_
  have r := r.unfl hst
  rcases alt_of hi with ⟨xs, hxs, e⟩ | hi
  · (injection e with e; subst e)
    cases LV.ints?_of hxs
    obtain ⟨a, its, rfl, na, l, i, z⟩ := r
    exact wpAny_pyIter_list l (h _ _ (src_list hh R.lists k₁ na l (paired_map (f := LV.int) (fun n v q => q) (ints_paired i)) (by rw [List.length_map]; exact z)))
  · obtain ⟨xs, hxs, e⟩ := map_of hi
    subst e
    cases LV.rows?_of hxs
    obtain ⟨a, its, rfl, na, l, i, z⟩ := r
    exact wpAny_pyIter_list l (h _ _ (src_list hh R.lists k₁ na l (paired_map (f := LV.tup) (fun n v q => q) i) (by rw [List.length_map]; exact z)))
theorem rng_inv {F : List FnD} {k : LC} {e : LE} {ex : PySem.Expr} (h : trSrc F k (.rng e) ex = true) : ∃ q x p, ex = .Call (.Name ("range" : Str) q) [x] [] p ∧ k.isGlob "range" = true ∧ plainL x = true ∧ trL F k e x = true := by
  apply o_Call_elim h; intro z1 l kw z2 h
  apply o_Name_elim h; intro n z3 h
  apply o_cons_elim h; intro x z4 h
  apply o_nil_elim h; intro h
  apply o_nil_elim h; intro h
  refine and_el h fun h h4 => ?_
  refine and_el h fun h h3 => ?_
  refine and_el h fun h1 h2 => ?_
  cases beq_iff_eq.mp h1
  exact ⟨_, _, _, rfl, h2, h3, h4⟩
theorem g_rng (OK : LOk X) (hh : A.handled = none) {e : LE} (ge : GoodE X A cf e) : GoodS X A cf (.rng e) := by
  intro k env ρ hs N₀ W ex items ht he EL KO hl s Q E' R h
  obtain ⟨q0, x0, p0, rfl, hg, hp, ht⟩ := rng_inv ht
  refine bind_el he fun v hv hi => ?_
  refine bind_el hi fun n hn hi => ?_
  obtain ⟨q, e⟩ := ite_of hi
  (injection e with e; subst e)
  cases LV.int?_of hn
  obtain ⟨b1, b2⟩ := OK.blt "range" (.type "range") (.tail _ (.tail _ (.tail _ (.head _))))
  refine wpAny_Call_NameR (load_builtin EL (OK.g.keeps R.base) (OK.b.keeps R.base) (KO.g _ (isGlob_of hg)) b1 b2 (by decide) ?_)
  rw [plainL_star hp env []]
  refine PySem.callWith_type rfl (Calls.evalArgs_plain (Calls.spliced_cons (ge k env ρ hs N₀ W _ _ ht hv EL KO hl s _ _ R fun y s₁ r k₁ => Calls.spliced_nil ?_)))
  obtain ⟨t, rfl⟩ := r
  have hlim : (lim : Int) < 2 ^ 40 := by decide
  refine call_range_1 (wpAny_pyIter_range (IsRange.new ..) (small_one (by decide) (by decide) (by omega) (by omega)) ?_)
  have hsz : Builtin.Range.rangeSize 0 n 1 = (n.toNat : Int) := by rw [rangeSize_one]; split <;> omega
  rw [hsz]
  refine h _ _ ?_
  have kk : Kg s { s₁ with heap := s₁.heap.push { cls := .type "range", data := .fields #[.int 0 s₁.toks, .int n t, .int 1 (s₁.toks + 1)] }, toks := s₁.toks + 1 + 1 } := k₁.trans .push
  generalize hh2 : s₁.heap.push { cls := .type "range", data := .fields #[.int 0 s₁.toks, .int n t, .int 1 (s₁.toks + 1)] } = hp2 at kk
  have W0 := (Walks.range (prog := X.x.prog) (w := X.x.w) hh hp2.objs.size 0 1 n.toNat).bound
  have hlen : ((List.range n.toNat).map fun i : Nat => LV.int (i : Int)).length = n.toNat := by simp
  rw [← hlen] at W0
  refine ⟨_, _, _, _, s.heap, rfl, by rw [hlen]; omega, W0, ?_, kk.fresh, fun _ _ e => e, (kk.trans .push').grow, kk.trans .push', ⟨_, Heap.get?_push_size _ rfl⟩, ?_, ?_, ?_, ?_, ?_⟩
  · rw [hlen]
    have e1 : (0 + ((0 : Nat) : Int) * 1) = 0 := by simp
    have e2 : ((n.toNat : Int) - ((0 : Nat) : Int)) = n.toNat := by simp
    rw [e1, e2]
    exact Heap.get?_push_size _ rfl
  · intro b hb
    exact .inl (List.mem_singleton.mp hb)
  · rintro i v ⟨hi, t', rfl⟩
    rw [hlen] at hi
    exact ⟨.int i, by simp [hi], ⟨t', by simp⟩⟩
  · intro i h b o st hb e
    rw [List.mem_singleton.mp hb] at e
    have st' : h.get? _ = some _ := st
    rw [e] at st'; (injection st' with st'; subst st'); rfl
  · intro i h st
    refine ⟨_, _, st, rfl, ?_, ?_, fun q t z => ?_⟩
    · intro q; injection q with z; exact absurd z (by decide)
    · exact fun q => (nomatch q)
    · cases z
  · intro i s' T elts j pos Q E st hQ
    exact go_range st hQ
theorem mask_at {caps : List Nat} {ρ : LLoc} {i : Nat} {v : LV} (h : LLoc.at (maskL caps ρ) i = some v) : caps.contains i = true ∧ readV ρ i = some v := by
  unfold LLoc.at maskL at h
  rw [List.getElem?_map] at h
  by_cases q : i < ρ.length
  · rw [List.getElem?_range q] at h
    exact cond_of h
  · rw [List.getElem?_eq_none (by rw [List.length_range]; omega)] at h
    injection h
theorem mask_len {caps : List Nat} {ρ : LLoc} : (maskL caps ρ).length = ρ.length := by unfold maskL; simp
theorem at_append {ρ : LLoc} {v w : LV} {i : Nat} (h : LLoc.at (ρ ++ [some w]) i = some v) : (i < ρ.length ∧ ρ.at i = some v) ∨ (i = ρ.length ∧ v = w) := by
  unfold LLoc.at at h
  rcases Nat.lt_trichotomy i ρ.length with q | q | q
  · rw [List.getElem?_append_left q] at h; exact .inl ⟨q, h⟩
  · subst q; simp at h; exact .inr ⟨rfl, h.symm⟩
  · rw [List.getElem?_eq_none (by simp; omega)] at h; injection h
structure CompOk (k : LC) (caps : List Nat) (x : Str) (sc : Scope) : Prop where
  kind : sc.kind = .function
  dbg : (x == ("__debug__" : Str)) = false
  xl : sc.names.lookup x = some .local
  cell : ∀ y ∈ sc.names, y.2 ≠ .cell
  loc : ∀ y ∈ sc.names, y.2 = .local → sc.names.lookup y.1 = some .local
  free : ∀ y ∈ sc.names, y.2 = .free → k.names.lookup y.1 = some .cell
  caps : ∀ i ∈ caps, ∃ n, k.vars[i]? = some n ∧ n ≠ x ∧ sc.names.lookup n = some .free ∧ k.names.lookup n = some .cell
theorem compOk_of {k : LC} {caps : List Nat} {x : Str} {sc : Scope} (h : compSc k caps x sc = true) : CompOk k caps x sc := by
  unfold compSc at h
  simp only [Bool.and_eq_true, beq_iff_eq, bne_iff_ne, List.all_eq_true] at h
  obtain ⟨⟨⟨⟨h1, h2⟩, h3⟩, h4⟩, h5⟩ := h
  refine ⟨h1, beq_eq_false_iff_ne.mpr h2, h3, fun y hy q => ?_, fun y hy q => ?_, fun y hy q => ?_, fun i hi => ?_⟩
  · have := h4 y hy; rw [q] at this; injection this
  · have := h4 y hy; rw [q] at this; exact beq_iff_eq.mp this
  · have := h4 y hy; rw [q] at this; exact beq_iff_eq.mp this
  · have := h5 i hi
    split at this
    · rename_i n hn
      simp only [Bool.and_eq_true, bne_iff_ne, beq_iff_eq] at this
      exact ⟨n, hn, this.1.1, this.1.2, this.2⟩
    · injection this
theorem comp_rd {k : LC} {caps : List Nat} {x : Str} {sc : Scope} {env : Env} {ρ : LLoc} {hs : Addr → Option Obj} {N₀ W : Addr → Prop} (C : CompOk k caps x sc) (EL : EnvL env k.vars) (KO : KOk k env) (hl : ρ.length = k.vars.length)
    {s s₃ : Shared} (R : Rd X hs N₀ env k.vars ρ W s.heap) (gr : Grow s.heap s₃.heap) {Ca : Addr} {m : Str → Option Value} (ns : s₃.heap.Ns Ca m) {n : Int} {t : Tok} (hm : m x = some (.int n t)) :
    Rd X hs N₀ (compEnvC sc (clOf env.cells sc.names []) Ca env) (k.vars ++ [x]) (maskL caps ρ ++ [some (.int n)]) W s₃.heap ∧ EnvL (compEnvC sc (clOf env.cells sc.names []) Ca env) (k.vars ++ [x]) ∧ KOk ⟨sc.names, k.vars ++ [x]⟩ (compEnvC sc (clOf env.cells sc.names []) Ca env) := by
  have R₃ := R.grow gr
  have hx : (compEnvC sc (clOf env.cells sc.names []) Ca env).kindOf x = some .local := lookup_relabel_local C.xl
  refine ⟨⟨R₃.base, R₃.lists, fun i nm v hi hv => ?_, fun i nm σ mv hi hv => ?_, R₃.tab⟩, ⟨C.kind, EL.glob, EL.blt, fun v hv => ?_⟩, ⟨fun nm h => ?_, fun nm h => ?_⟩⟩
  · rcases at_append hv with ⟨q, hv⟩ | ⟨q, rfl⟩
    · obtain ⟨hc, hr⟩ := mask_at hv
      obtain ⟨e, st⟩ := readV_of hr
      obtain ⟨nm', hn', hne, hf, hkc⟩ := C.caps i (List.contains_iff_mem.mp hc)
      rw [mask_len, hl] at q
      rw [List.getElem?_append_left q] at hi
      rw [hi] at hn'; (injection hn' with hn'; subst hn')
      obtain ⟨y, hy, r⟩ := R₃.var i nm v hi e
      refine ⟨y, ?_, r⟩
      obtain ⟨kc, c, hcl⟩ := KO.c nm hkc
      rcases hy with ⟨kk, _⟩ | ⟨kk, c', hc', hcell⟩
      · rw [kc] at kk; cases kk
      · refine .inr ⟨(relabel_cell C.cell EL.kind).mpr ⟨hf, kc⟩, c', ?_, hcell⟩
        obtain ⟨l1, l2⟩ := clOf_lookup (cells := env.cells) sc.names [] (fun _ _ q => by simp at q)
        have hmem : (nm, NameKind.free) ∈ sc.names := mem_of_lookup hf
        obtain ⟨d, hd⟩ := Option.isSome_iff_exists.mp (l2 nm (.inr ⟨hmem, by rw [hc']; rfl⟩))
        have := l1 nm d hd
        rw [hc'] at this; (injection this with this; subst this)
        exact hd
    · rw [mask_len, hl] at q
      subst q
      rw [List.getElem?_append_right (Nat.le_refl _)] at hi
      simp at hi
      subst hi
      exact ⟨.int n t, .inl ⟨hx, m, ns, hm⟩, ⟨t, rfl⟩⟩
  · rcases at_append hv with ⟨q, hv⟩ | ⟨q, hv⟩
    · obtain ⟨hc, hr⟩ := mask_at hv
      obtain ⟨e, st⟩ := readV_of hr
      injection st
    · injection hv
  · rcases List.mem_append.mp hv with h | h
    · exact EL.nodbg v h
    · rw [List.mem_singleton.mp h]; exact C.dbg
  · exact relabel_glob (by decide) (by decide) h
  · exact absurd rfl (C.cell (nm, .cell) (mem_of_lookup h))
noncomputable def eltF (cf : Nat → List LV → Option LV) (elt : LE) (caps : List Nat) (ρ : LLoc) (it : LV) : Option Int := (evL cf elt (maskL caps ρ ++ [some it])).bind LV.int?
noncomputable def eltR (cf : Nat → List LV → Option LV) (elt : LE) (caps : List Nat) (ρ : LLoc) (v y : Value) : Prop := ∃ n t r u, v = .int n t ∧ eltF cf elt caps ρ (.int n) = some r ∧ y = .int r u
theorem mapO_at {α β : Type} {f : α → Option β} : ∀ {l : List α} {r : List β}, mapO f l = some r → ∀ {i : Nat} {a : α}, l[i]? = some a → ∃ b, f a = some b ∧ r[i]? = some b
  | a :: l, r, h, i, x, hi => by
    refine bind_el h fun b hb h => ?_
    obtain ⟨r', hr, e⟩ := map_of h
    subst e
    cases i with
    | zero => (injection hi with hi; subst hi); exact ⟨b, hb, rfl⟩
    | succ i => exact mapO_at hr hi
theorem comp_ints {elt : LE} {caps : List Nat} {ρ : LLoc} {items : List LV} {rs : List Int} {vs ys : List Value} (h : mapO (eltF cf elt caps ρ) items = some rs) (hl : vs.length = items.length)
    (hv : ∀ (j : Nat) (v : Value), vs[j]? = some v → ∃ (lv : LV) (n : Int) (t : Tok), items[j]? = some lv ∧ lv = LV.int n ∧ v = Value.int n t) (p : Paired (eltR cf elt caps ρ) vs ys) : IntsAre ys rs := by
  induction p generalizing items rs with
  | nil =>
    cases items with
    | nil => (injection h with h; subst h); exact .nil
    | cons a b => injection hl
  | cons q _ ih =>
    cases items with
    | nil => injection hl
    | cons it items =>
      refine bind_el h fun b hb h => ?_
      obtain ⟨r', hr, e⟩ := map_of h
      subst e
      obtain ⟨lv, n, t, e1, e2, e3⟩ := hv 0 _ rfl
      (injection e1 with e1; subst e1)
      obtain ⟨n', t', r, u, e4, e5, rfl⟩ := q
      rw [e4] at e3
      (injection e3 with e3; subst e3)
      rw [e2, e5] at hb
      (injection hb with hb; subst hb)
      exact .cons _ u (ih hr (Nat.succ.inj hl) fun j w hj => hv (j + 1) w hj)
theorem comp_quiet {k : LC} {caps : List Nat} {x : Str} {sc : Scope} {env : Env} {ρ : LLoc} {hs : Addr → Option Obj} {N₀ W : Addr → Prop} {elt : LE} {eex : PySem.Expr} (ge : GoodE X A cf elt) (C : CompOk k caps x sc) (EL : EnvL env k.vars) (KO : KOk k env) (hl : ρ.length = k.vars.length)
    (te : trL X.F ⟨sc.names, k.vars ++ [x]⟩ elt eex = true) {s s₂ : Shared} (R : Rd X hs N₀ env k.vars ρ W s.heap) (kg : Kg s s₂) {I : Addr} (nI : s.heap.get? I = none) {P : Nat → Value → Prop} {items : List LV} {rs : List Int} (hm : mapO (eltF cf elt caps ρ) items = some rs)
    (hP : ∀ i v, P i v → ∃ (lv : LV) (n : Int) (t : Tok), items[i]? = some lv ∧ lv = LV.int n ∧ v = Value.int n t) : QuietOnC X.x.prog X.x.w A env sc (clOf env.cells sc.names []) x [] eex [I] P (fun _ => true) (eltR cf elt caps ρ) s₂ where
  tests := fun Ca i v s₃ m₃ E' _ _ _ _ _ _ => by
    rw [List.forIn_nil]
    exact wpAny_pure ⟨rfl, ⟨s₃.heap, s₃.toks, rfl, fun _ _ e => e⟩⟩
  elt := fun Ca i v s₃ m₃ E' hCa hp _ ns hx keep _ => by
    obtain ⟨lv, n, t, e1, rfl, rfl⟩ := hP i v hp
    have gr : Grow s.heap s₃.heap := fun b o e => keep b o (fun q => by rw [List.mem_singleton.mp q, nI] at e; injection e) (kg.grow b o e)
    obtain ⟨R', EL', KO'⟩ := comp_rd C EL KO hl R gr ns hx
    obtain ⟨r, hr, _⟩ := mapO_at hm e1
    refine bind_el hr fun w hev hw => ?_
    cases LV.int?_of hw
    refine ge ⟨sc.names, k.vars ++ [x]⟩ _ _ hs N₀ W eex _ te hev EL' KO' (by simp [mask_len, hl]) s₃ _ _ R' fun y s₄ ry k₄ => ?_
    obtain ⟨u, rfl⟩ := ry
    obtain ⟨h4, t4, e4, g4⟩ := k₄
    exact ⟨⟨n, t, r, u, rfl, hr, rfl⟩, ⟨h4, t4, e4, g4⟩⟩
theorem walks_fp {I : Addr} {fp : List Addr} {W : Addr → Prop} {hp h : Heap} (eI : ∃ o, h.get? I = some o) (g : Grow hp h) (h' : ∀ b ∈ fp, b = I ∨ ∃ o, hp.get? b = some o ∧ isStore o = false ∧ ¬ W b) : ∀ b ∈ fp, b < h.objs.size := fun b hb => by
  rcases h' b hb with rfl | ⟨o, e, _⟩
  · obtain ⟨o, e⟩ := eI; exact Heap.lt_size e
  · exact Heap.lt_size (g _ _ e)
theorem none_down {h hp : Heap} {I : Addr} (g : Grow h hp) (e : hp.get? I = none) : h.get? I = none := by
  cases q : h.get? I with
  | none => rfl
  | some o => have := g _ _ q; rw [e] at this; injection this
theorem int_items {N : Addr → Prop} {h : Heap} {items : List LV} {xs : List Int} (hi : mapO asInt items = some xs) {P : Nat → Value → Prop} (hP : ∀ i v, P i v → ∃ lv, items[i]? = some lv ∧ RV N h lv v) : ∀ i v, P i v → ∃ (lv : LV) (n : Int) (t : Tok), items[i]? = some lv ∧ lv = LV.int n ∧ v = Value.int n t := by
  intro i v hp
  obtain ⟨lv, e, r⟩ := hP i v hp
  obtain ⟨n, hn, _⟩ := mapO_at hi e
  cases LV.int?_of hn
  obtain ⟨t, rfl⟩ := r
  exact ⟨_, n, t, e, rfl, rfl⟩
theorem cells_of {k : LC} {caps : List Nat} {x : Str} {sc : Scope} {env : Env} (C : CompOk k caps x sc) (KO : KOk k env) : closureFor sc env = pure (clOf env.cells sc.names []) :=
  closure_eq fun y hy hf => (KO.c y.1 (C.free y hy hf)).2
theorem fold_src {F : List FnD} {k : LC} {src : LSrc} {it : PySem.Expr} (h : trSrc F k src it = true) (env : Env) : ∀ x, foldedSetIterable it env x = pure x := by
  intro x
  cases src with
  | rng e => obtain ⟨_, _, _, rfl, _⟩ := rng_inv h; rfl
  | lst e =>
    have h := (Bool.and_eq_true_iff.mp (Bool.and_eq_true_iff.mp h).1).1
    cases it <;> first | rfl | injection h
theorem filter_tt {α : Type} (l : List α) : l.filter (fun _ => true) = l := by simp
theorem comp_inv {elt : LE} {caps : List Nat} {src : LSrc} {ρ : LLoc} {v : LV} (he : evL cf (.comp elt caps src) ρ = some v) : ∃ items xs rs, evSrc cf src ρ = some items ∧ mapO asInt items = some xs ∧ mapO (eltF cf elt caps ρ) items = some rs ∧ v = .ints rs := by
  refine bind_el he fun items hi he => ?_
  refine bind_el he fun xs hxs he => ?_
  refine map_el he fun rs hrs e => ?_
  exact ⟨items, xs, rs, hi, hxs, hrs, e.symm⟩
theorem trC_inv {F : List FnD} {k : LC} {elt : LE} {caps : List Nat} {src : LSrc} {ex : PySem.Expr} (ht : trL F k (.comp elt caps src) ex = true) : ∃ e x y1 it sc y2, ex = .ListComp e [⟨.Name x y1, it, [], 0⟩] sc y2 ∧ CompOk k caps x sc ∧ trSrc F k src it = true ∧ trL F ⟨sc.names, k.vars ++ [x]⟩ elt e = true := by
  refine inv_trL_comp ht fun _ _ _ _ _ _ _ _ hx₀ ht => ?_
  subst hx₀
  refine and_el ht fun ht hel => ?_
  refine and_el ht fun ht hsr => ?_
  refine and_el ht fun ht hc => ?_
  refine and_el ht fun h1 h2 => ?_
  cases List.isEmpty_iff.mp h1
  cases beq_iff_eq.mp h2
  exact ⟨_, _, _, _, _, _, rfl, compOk_of hc, hsr, hel⟩
theorem g_comp {elt : LE} {caps : List Nat} {src : LSrc} (ge : GoodE X A cf elt) (gs : GoodS X A cf src) : GoodE X A cf (.comp elt caps src) := by
  intro k env ρ hs N₀ W ex v ht he EL KO hl s Q E' R h
  obtain ⟨_, _, _, _, _, _, rfl, C, hsr, hel⟩ := trC_inv ht
  obtain ⟨items, xs, rs, hi, hxs, hrs, rfl⟩ := comp_inv he
  refine wpAny_ListComp_free (fun _ => true) (eltR cf elt caps ρ) (cells_of C KO) C.cell C.kind C.loc C.xl (gs k env ρ hs N₀ W _ items hsr hi EL KO hl s _ _ R fun it s₂ S => ?_) (fold_src hsr env)
  obtain ⟨I, fp, P, St, hp, rfl, hz, Wk, st, nI', g1, g2, kg, eI, hfp, hP, _⟩ := S
  have nI := none_down g1 nI'
  have hP' := int_items hxs hP
  refine ⟨I, fp, [I], items.length, P, St, rfl, Wk, Nat.le_trans hz lim_size, st, walks_fp (W := W) (I := I) eI g2 hfp, comp_quiet ge C EL KO hl hel R kg nI hrs hP', ?_⟩
  intro D h' tk ys vs hD lD pD hvl hvP pr keep
  rw [filter_tt] at pr
  have ia := comp_ints (cf := cf) hrs hvl (fun j w hj => hP' j w (hvP j w hj)) pr
  have gr : Grow s.heap h' := fun b o e => keep b o (fun q => by rw [List.mem_singleton.mp q, nI] at e; injection e) (kg.grow b o e)
  refine h _ _ ⟨D, ys, rfl, fun q => fresh_notin R.lists (none_down kg.grow hD) q.2, lD, ia, by rw [mapO_len hrs]; exact hz⟩ ?_
  obtain ⟨h2, t2, rfl, g2⟩ := kg
  exact ⟨h', tk, rfl, gr⟩
end
end Mine

end
section
open PySem PySem.W PyProof.Rows
set_option maxRecDepth 100000
set_option maxHeartbeats 1000000
set_option linter.unusedSimpArgs false
set_option linter.unusedVariables false
namespace Mine
structure EnvF (env : Env) (k : LC) : Prop where
  el : EnvL env k.vars
  ko : KOk k env
  nodup : k.vars.Nodup
  apart : env.cells.Pairwise fun x y => x.2 ≠ y.2
  kinds : ∀ n ∈ k.vars, env.kindOf n = some .local ∨ (env.kindOf n = some .cell ∧ ∃ c, env.cells.lookup n = some c)
  names : k.names = env.scope.names
structure FrR (X : LX) (hs : Addr → Option Obj) (N₀ : Addr → Prop) (env : Env) (vars : List Str) (ρ : LLoc) (W : Addr → Prop) (h : Heap) : Prop where
  rd : Rd X hs N₀ env vars ρ W h
  up : ∀ b o, X.x.h₀.get? b = some o → hs b = some o
  hb : ∀ b o, hs b = some o → h.get? b = some o
  wnew : ∀ a, W a → hs a = none
  locN : hs env.locals = none
  locNs : ∃ m, h.Ns env.locals m
  celN : ∀ n c, env.cells.lookup n = some c → hs c = none ∧ ∃ v, h.IsCell c v
  ownD : ∀ i j ni nj u v a, vars[i]? = some ni → vars[j]? = some nj → ρ.at i = some u → ρ.at j = some v → Ow u = true → Ow v = true → VarAt env h ni (.ref a) → VarAt env h nj (.ref a) → i = j
  mchD : ∀ i j ni nj σ τ m n I J D, vars[i]? = some ni → vars[j]? = some nj → ρ.at i = some (.mpu σ m) → ρ.at j = some (.mpu τ n) → VarAt env h ni (.ref I) → VarAt env h nj (.ref J) → h.get? I = some (instObj X.x.C D) → h.get? J = some (instObj X.x.C D) → i = j
  len : ρ.length = vars.length
  n0 : ∀ a, N₀ a → hs a ≠ none
section
variable {X : LX} {hs : Addr → Option Obj} {N₀ : Addr → Prop} {env : Env} {vars : List Str} {ρ : LLoc} {W : Addr → Prop} {h h' : Heap} {Z : Addr → Prop}
theorem FrR.h0 (R : FrR X hs N₀ env vars ρ W h) : ∀ b o, X.x.h₀.get? b = some o → h.get? b = some o := fun b o e => R.hb b o (R.up b o e)
theorem store_dict {a : Addr} {m : Str → Option Value} (n : h.Ns a m) : ∃ o, h.get? a = some o ∧ isStore o = true := by
  obtain ⟨o, es, ep, e, d, _⟩ := n
  exact ⟨o, e, by unfold isStore; rw [d]⟩
theorem store_cell {a : Addr} {v : Option Value} (n : h.IsCell a v) : ∃ o, h.get? a = some o ∧ isStore o = true := by
  obtain ⟨o, e, d⟩ := n
  exact ⟨o, e, by unfold isStore; rw [d]⟩
noncomputable abbrev KeepZ (Z : Addr → Prop) (h h' : Heap) : Prop := ∀ b o, ¬ Z b → h.get? b = some o → h'.get? b = some o
theorem Rp.move {x : Cx} {v : V} {y : Value} (r : Rp x h v y) (k : KeepZ Z h h') (zm : ∀ b f s, h.get? b = some (methodObj f s) → ¬ Z b) : Rp x h' v y := by
  cases v <;> try exact r
  obtain ⟨b, e, g⟩ := r
  exact ⟨b, e, k b _ (zm _ _ _ g) g⟩
theorem Mr.move {x : Cx} {σ : M} {its : Array Value} {xs : List Int} (m : Mr x σ h) (k : KeepZ Z h h') (z0 : ∀ b o, x.h₀.get? b = some o → ¬ Z b) (zI : ¬ Z x.I) (zD : ¬ Z x.D) (zm : ∀ b f s, h.get? b = some (methodObj f s) → ¬ Z b)
    (l : PlainL h' x.L its) (ia : IntsAre its.toList xs) (z : xs.length < 2 ^ 62) (tb : TabInv h') : Mr x { σ with mem := xs } h' := by
  obtain ⟨mm, n, r, zz⟩ := m.ns
  exact ⟨fun b o e => k b o (z0 b o e) (m.stays b o e), k _ _ zI m.inst, ⟨mm, n.at fun o e => k _ o zD e, fun f => by rw [M.get_mem]; exact (r f).map fun v rv => rv.move k zm, zz⟩, ⟨its, l, ia⟩, z, tb⟩
theorem VarAt.move {n : Str} {y : Value} (v : VarAt env h n y) (k : KeepZ Z h h') (zl : ¬ Z env.locals) (zc : ∀ n c, env.cells.lookup n = some c → ¬ Z c) : VarAt env h' n y := by
  rcases v with ⟨a, m, hm, e⟩ | ⟨a, c, hc, o, eo, d⟩
  · exact .inl ⟨a, m, hm.at' fun o e => k _ o zl e, e⟩
  · exact .inr ⟨a, c, hc, o, k _ o (zc n c hc) eo, d⟩
theorem FrR.upd (R : FrR X hs N₀ env vars ρ W h) (tb : TabInv h') (i : Nat) (ρ' : LLoc) (k : KeepZ Z h h') (zhs : ∀ b, Z b → hs b = none) (loc : ∃ m, h'.Ns env.locals m) (cel : ∀ n c, env.cells.lookup n = some c → ∃ v, h'.IsCell c v) (lst : Lists (nn N₀ W) h')
    (len : ρ'.length = vars.length) (old : ∀ j, j ≠ i → LLoc.at ρ' j = ρ.at j) (var : ∀ j nj y, j ≠ i → vars[j]? = some nj → VarAt env h nj y → VarAt env h' nj y)
    (val : ∀ j nj u y, j ≠ i → vars[j]? = some nj → ρ.at j = some u → VarAt env h nj y → RVar N₀ W h u y → RVar N₀ W h' u y)
    (mch : ∀ j nj σ mv I D L xs nm, j ≠ i → vars[j]? = some nj → ρ.at j = some (.mpu σ mv) → VarAt env h nj (.ref I) → Mch X hs env vars ρ h I D L xs nm σ mv → ∃ xs', Mch X hs env vars ρ' h' I D L xs' nm σ mv)
    (self : ∀ n v, vars[i]? = some n → LLoc.at ρ' i = some v → (∃ y, VarAt env h' n y ∧ RVar N₀ W h' v y) ∧ ∀ σ mv, v = .mpu σ mv → ∃ I D L xs nm, VarAt env h' n (.ref I) ∧ Mch X hs env vars ρ' h' I D L xs nm σ mv)
    (selfO : ∀ n u a, vars[i]? = some n → LLoc.at ρ' i = some u → Ow u = true → VarAt env h' n (.ref a) → ∀ j nj w, j ≠ i → vars[j]? = some nj → ρ.at j = some w → Ow w = true → ¬ VarAt env h nj (.ref a))
    (selfM : ∀ n σ mv I D, vars[i]? = some n → LLoc.at ρ' i = some (.mpu σ mv) → VarAt env h' n (.ref I) → h'.get? I = some (instObj X.x.C D) → ∀ j nj τ m J, j ≠ i → vars[j]? = some nj → ρ.at j = some (.mpu τ m) → VarAt env h nj (.ref J) → h.get? J ≠ some (instObj X.x.C D)) :
    FrR X hs N₀ env vars ρ' W h' := by
  have back : ∀ j nj u y, j ≠ i → vars[j]? = some nj → ρ.at j = some u → VarAt env h' nj y → VarAt env h nj y := fun j nj u y q hj hu v => by
    obtain ⟨y', b, _⟩ := R.rd.var j nj u hj hu
    exact (var j nj y' q hj b).unique v ▸ b
  have instB : ∀ j nj σ m J D, j ≠ i → vars[j]? = some nj → ρ.at j = some (.mpu σ m) → VarAt env h nj (.ref J) → h'.get? J = some (instObj X.x.C D) → h.get? J = some (instObj X.x.C D) := fun j nj σ m J D q hj hu v e => by
    obtain ⟨I, D', L, xs, nm, vI, M⟩ := R.rd.mach j nj σ m hj hu
    cases v.unique vI
    obtain ⟨xs', M'⟩ := mch j nj σ m J D' L xs nm q hj hu v M
    have e1 : h.get? J = some (instObj X.x.C D') := M.mr.inst
    have e2 : h'.get? J = some (instObj X.x.C D') := M'.mr.inst
    rw [e2] at e; rw [e1]; exact e
  refine ⟨⟨fun b o e => k b o (fun q => by have := R.up b o e; rw [zhs b q] at this; injection this) (R.rd.base b o e), lst, fun j nj u hj hu => ?_, fun j nj σ mv hj hu => ?_, tb⟩, R.up, fun b o e => k b o (fun q => by rw [zhs b q] at e; injection e) (R.hb b o e), R.wnew, R.locN, loc, fun n c hc => ⟨(R.celN n c hc).1, cel n c hc⟩, ?_, ?_, len, R.n0⟩
  · by_cases q : j = i
    · subst q; exact (self nj u hj hu).1
    · rw [old j q] at hu
      obtain ⟨y, va, r⟩ := R.rd.var j nj u hj hu
      exact ⟨y, var j nj y q hj va, val j nj u y q hj hu va r⟩
  · by_cases q : j = i
    · subst q; exact (self nj _ hj hu).2 σ mv rfl
    · rw [old j q] at hu
      obtain ⟨I, D, L, xs, nm, va, M⟩ := R.rd.mach j nj σ mv hj hu
      obtain ⟨xs', M'⟩ := mch j nj σ mv I D L xs nm q hj hu va M
      exact ⟨I, D, L, xs', nm, var j nj _ q hj va, M'⟩
  · intro j1 j2 n1 n2 u v a h1 h2 h3 h4 o1 o2 h5 h6
    by_cases q1 : j1 = i <;> by_cases q2 : j2 = i
    · rw [q1, q2]
    · subst q1; rw [old j2 q2] at h4
      exact absurd (back j2 n2 _ _ q2 h2 h4 h6) (selfO n1 u a h1 h3 o1 h5 j2 n2 v q2 h2 h4 o2)
    · subst q2; rw [old j1 q1] at h3
      exact absurd (back j1 n1 _ _ q1 h1 h3 h5) (selfO n2 v a h2 h4 o2 h6 j1 n1 u q1 h1 h3 o1)
    · rw [old j1 q1] at h3; rw [old j2 q2] at h4
      exact R.ownD j1 j2 n1 n2 u v a h1 h2 h3 h4 o1 o2 (back j1 n1 _ _ q1 h1 h3 h5) (back j2 n2 _ _ q2 h2 h4 h6)
  · intro j1 j2 n1 n2 σ τ m n I J D h1 h2 h3 h4 h5 h6 h7 h8
    by_cases q1 : j1 = i <;> by_cases q2 : j2 = i
    · rw [q1, q2]
    · subst q1; rw [old j2 q2] at h4
      exact absurd (instB j2 n2 τ n J D q2 h2 h4 (back j2 n2 _ _ q2 h2 h4 h6) h8) (selfM n1 σ m I D h1 h3 h5 h7 j2 n2 τ n J q2 h2 h4 (back j2 n2 _ _ q2 h2 h4 h6))
    · subst q2; rw [old j1 q1] at h3
      exact absurd (instB j1 n1 σ m I D q1 h1 h3 (back j1 n1 _ _ q1 h1 h3 h5) h7) (selfM n2 τ n J D h2 h4 h6 h8 j1 n1 σ m I q1 h1 h3 (back j1 n1 _ _ q1 h1 h3 h5))
    · rw [old j1 q1] at h3; rw [old j2 q2] at h4
      have v1 := back j1 n1 _ _ q1 h1 h3 h5
      have v2 := back j2 n2 _ _ q2 h2 h4 h6
      exact R.mchD j1 j2 n1 n2 σ τ m n I J D h1 h2 h3 h4 v1 v2 (instB j1 n1 σ m I D q1 h1 h3 v1 h7) (instB j2 n2 τ n J D q2 h2 h4 v2 h8)
theorem nth_none : vars[vars.length]? = none := List.getElem?_eq_none (Nat.le_refl _)
theorem FrR.same (R : FrR X hs N₀ env vars ρ W h) (tb : TabInv h') (k : KeepZ Z h h') (zhs : ∀ b, Z b → hs b = none) (zl : ¬ Z env.locals) (zc : ∀ n c, env.cells.lookup n = some c → ¬ Z c) (zs : ∀ b o a n, h.get? b = some o → o.data = .seq a n → ¬ Z b)
    (zM : ∀ b f s, h.get? b = some (methodObj f s) → ¬ Z b) (zi : ∀ b C D, h.get? b = some (instObj C D) → ¬ Z b) (zd : ∀ b m, h.Ns b m → ¬ Z b) : FrR X hs N₀ env vars ρ W h' := by
  have ls : ∀ {a its}, PlainL h a its → PlainL h' a its := fun l => by obtain ⟨o, n, e, c, dn, d⟩ := l; exact ⟨o, n, k _ _ (zs _ _ _ _ e d) e, c, dn, d⟩
  have vm : ∀ {n y}, VarAt env h n y → VarAt env h' n y := fun v => v.move k zl zc
  refine R.upd tb vars.length ρ k zhs (by obtain ⟨m, n⟩ := R.locNs; exact ⟨m, n.at' fun o e => k _ o zl e⟩) (fun n c hc => by obtain ⟨_, v, o, e, d⟩ := R.celN n c hc; exact ⟨v, o, k _ _ (zc n c hc) e, d⟩) (fun a w => by obtain ⟨its, l⟩ := R.rd.lists a w; exact ⟨its, ls l⟩)
    R.len (fun _ _ => rfl) (fun _ _ _ _ _ v => vm v) (fun _ _ _ _ _ _ _ _ r => r.keepS (fun b o a n e d _ => k b o (zs b o a n e d) e) fun _ _ _ _ _ l => ls l) (fun j nj σ mv I D L xs nm _ _ _ _ M => ⟨xs, M.own, M.nam, vm M.vL, ?_, M.hD, M.d0, M.l0, M.Dl⟩)
    (fun n v hn => by rw [nth_none] at hn; injection hn) (fun n xs a hn => by rw [nth_none] at hn; injection hn) (fun n σ mv I D hn => by rw [nth_none] at hn; injection hn)
  obtain ⟨its, l, ia⟩ := M.mr.mem
  obtain ⟨m, n, _⟩ := M.mr.ns
  exact M.mr.move (xs := xs) k (fun b o e q => by have := R.up b o e; rw [zhs b q] at this; injection this) (zi _ _ _ M.mr.inst) (zd _ _ n.ns) zM (ls l) ia M.mr.sz tb
theorem FrR.grow (R : FrR X hs N₀ env vars ρ W h) (g : Grow h h') : FrR X hs N₀ env vars ρ W h' :=
  R.same (Z := fun _ => False) (R.rd.tab.keep fun b o _ e _ => g b o e) (fun b o _ e => g b o e) (fun _ q => q.elim) (fun q => q) (fun _ _ _ q => q) (fun _ _ _ _ _ _ q => q) (fun _ _ _ _ q => q) (fun _ _ _ _ q => q) (fun _ _ _ q => q)
theorem VarAt.down {n : Str} {y : Value} (R : FrR X hs N₀ env vars ρ W h) (g : Grow h h') {i : Nat} {v : LV} (hi : vars[i]? = some n) (hv : ρ.at i = some v) (a : VarAt env h' n y) : VarAt env h n y := by
  obtain ⟨y', b, _⟩ := R.rd.var i n v hi hv
  exact (b.grow g).unique a ▸ b
structure StoreR (hs : Addr → Option Obj) (env : Env) (n : Str) (y : Value) (h h' : Heap) : Prop where
  same : ∃ z o, h.get? z = some o ∧ isStore o = true ∧ hs z = none ∧ (z = env.locals ∨ ∃ v, o.data = .cell v) ∧ (∀ b o, b ≠ z → h.get? b = some o → h'.get? b = some o) ∧ ∃ o', h'.get? z = some o'
  var : ∀ nm y', nm ≠ n → VarAt env h nm y' → VarAt env h' nm y'
  self : VarAt env h' n y
  loc : ∃ m, h'.Ns env.locals m
  cel : ∀ n c, env.cells.lookup n = some c → ∃ v, h'.IsCell c v
theorem storeR_local (R : FrR X hs N₀ env vars ρ W h) {n : Str} {y : Value} {m : Str → Option Value} (hkk : env.kindOf n = some .local) (ns : h.Ns env.locals m) (ns' : h'.Ns env.locals (fun z => if z = n then some y else m z))
    (keep' : ∀ b o, b ≠ env.locals → h.get? b = some o → h'.get? b = some o) : StoreR hs env n y h h' := by
  obtain ⟨o, eo, so⟩ := store_dict ns
  have cne : ∀ c v, h.IsCell c v → h'.IsCell c v := fun c v hv => by
    obtain ⟨o1, e1, d1⟩ := hv
    obtain ⟨o2, es, ep, e2, d2, _⟩ := ns
    exact ⟨o1, keep' _ _ (fun q => by rw [q, e2] at e1; (injection e1 with e1; subst e1); rw [d1] at d2; injection d2) e1, d1⟩
  refine ⟨⟨env.locals, o, eo, so, R.locN, .inl rfl, keep', by obtain ⟨o', _, _, e, _⟩ := ns'; exact ⟨o', e⟩⟩, fun nm y' hne v => ?_, .inl ⟨hkk, _, ns', if_pos rfl⟩, ⟨_, ns'⟩, fun n' c' hc' => ?_⟩
  · rcases v with ⟨kk, m', hm', e⟩ | ⟨kk, c', hc', hv⟩
    · rw [ns_unique hm' ns] at e
      exact .inl ⟨kk, _, ns', by rw [if_neg hne]; exact e⟩
    · exact .inr ⟨kk, c', hc', cne c' _ hv⟩
  · obtain ⟨_, v, hv⟩ := R.celN n' c' hc'
    exact ⟨v, cne c' v hv⟩
theorem raw_store {k : LC} {A : Around} {s : Shared} {E' : Value → Shared → Prop} (EF : EnvF env k) (R : FrR X hs N₀ env k.vars ρ W s.heap) {n : Str} {y : Value} (hn : n ∈ k.vars) {Q : Unit → Shared → Prop}
    (hq : ∀ h' t', StoreR hs env n y s.heap h' → Q () { s with heap := h', toks := t' }) : wpAny (model X.x.prog X.x.w) A (storeName env n y) Q E' s := by
  obtain ⟨m, ns⟩ := R.locNs
  rcases EF.kinds n hn with kl | ⟨kc, c, hc⟩
  · have hp : (env.scope.kind == .class || (env.scope.kind == .module && env.locals != env.globals)) = false := by rw [EF.el.kind]; rfl
    exact wpAny_storeName_local kl ns (fun h' ns' sb => hq h' _ (storeR_local R kl ns ns' fun b o q e => by rw [sb.2 b q]; exact e)) hp
  · obtain ⟨hsc, v₀, hcell⟩ := R.celN n c hc
    refine wpAny_storeName_cell EF.el.kind kc hc hcell fun h' hc' sb => ?_
    have keep : ∀ b o, b ≠ c → s.heap.get? b = some o → h'.get? b = some o := fun b o q e => by rw [sb.2 b q]; exact e
    obtain ⟨o, eo, do'⟩ := id hcell
    have lne : env.locals ≠ c := fun q => by
      obtain ⟨o2, es, ep, e2, d2, _⟩ := ns
      rw [q, eo] at e2; (injection e2 with e2; subst e2); rw [do'] at d2; injection d2
    have ns' : h'.Ns env.locals m := ns.at' fun o e => keep _ o lne e
    refine hq h' _ ⟨⟨c, o, eo, by unfold isStore; rw [do'], hsc, .inr ⟨_, do'⟩, keep, by obtain ⟨o', e, _⟩ := hc'; exact ⟨o', e⟩⟩, fun nm y' hne v => ?_, .inr ⟨kc, c, hc, hc'⟩, ⟨m, ns'⟩, fun n' c' hc'' => ?_⟩
    · rcases v with ⟨kk, m', hm', e⟩ | ⟨kk, c', hc'', hv⟩
      · rw [ns_unique hm' ns] at e
        exact .inl ⟨kk, m, ns', e⟩
      · have : c' ≠ c := fun q => hne (name_of_addr EF.apart (mem_of_lookup hc'') (q ▸ mem_of_lookup hc))
        obtain ⟨o1, e1, d1⟩ := hv
        exact .inr ⟨kk, c', hc'', ⟨o1, keep _ _ this e1, d1⟩⟩
    · by_cases q : c' = c
      · subst q; exact ⟨_, hc'⟩
      · obtain ⟨_, v, o1, e1, d1⟩ := R.celN n' c' hc''
        exact ⟨v, o1, keep _ _ q e1, d1⟩
theorem LLoc.at_ne {i j : Nat} {o : Option LV} (q : j ≠ i) : LLoc.at (ρ.set i o) j = ρ.at j := by
  unfold LLoc.at
  rw [List.getElem?_set, if_neg (Ne.symm q)]
theorem LLoc.at_self {i : Nat} {o : Option LV} (hi : i < ρ.length) : LLoc.at (ρ.set i o) i = o := by
  unfold LLoc.at
  rw [List.getElem?_set, if_pos rfl, if_pos hi]; rfl
theorem setL_of {i : Nat} {v : LV} {ρ' : LLoc} (h : setL ρ i v = some ρ') : i < ρ.length ∧ ρ' = ρ.set i (some v) := by
  obtain ⟨q, e⟩ := ite_of h
  (injection e with e; subst e)
  exact ⟨q, rfl⟩
theorem StoreR.evo {n : Str} {y : Value} (S : StoreR hs env n y h h') : Evo (fun _ => False) h h' := fun b o e _ st => by
  obtain ⟨z, oz, ez, sz, _, _, k, _⟩ := S.same
  exact k b o (fun q => by rw [q, ez] at e; (injection e with e; subst e); rw [sz] at st; injection st) e
theorem Evo.seqk0 {N : Addr → Prop} (e : Evo (fun _ => False) h h') : SeqK N h h' := fun b o a n eo d _ => e b o eo (fun q => q) (by unfold isStore; rw [d])
theorem RVar.evo0 {v : LV} {y : Value} (r : RVar N₀ W h v y) (k : Evo (fun _ => False) h h') : RVar N₀ W h' v y :=
  r.keepS k.seqk0 fun a its _ _ _ l => by obtain ⟨o, n, e, c, dn, d⟩ := l; exact ⟨o, n, k a o e (fun q => q) (by unfold isStore; rw [d]), c, dn, d⟩
theorem free_of {i : Nat} (hf : free ρ i = true) : ∀ j σ, ρ.at j ≠ some (.mpu σ i) := fun j σ q => by
  unfold LLoc.at at q
  cases e : ρ[j]? with
  | none => rw [e] at q; injection q
  | some o =>
    rw [e] at q
    obtain rfl : o = some (.mpu σ i) := q
    have := List.all_eq_true.mp hf _ (List.mem_of_getElem? e)
    have h2 : (!Nat.beq i i) = true := this
    rw [Nat.beq_refl] at h2
    injection h2
theorem names_ne {i j : Nat} {n m : Str} (nd : vars.Nodup) (hi : vars[i]? = some n) (hj : vars[j]? = some m) (e : j ≠ i) : m ≠ n := by
  rintro rfl
  obtain ⟨a1, a2⟩ := List.getElem?_eq_some_iff.mp hi
  obtain ⟨b1, b2⟩ := List.getElem?_eq_some_iff.mp hj
  have nd := List.pairwise_iff_getElem.mp nd
  rcases Nat.lt_or_gt_of_ne e with q | q
  · exact nd j i b1 a1 q (b2.trans a2.symm)
  · exact nd i j a1 b1 q (a2.trans b2.symm)
noncomputable def NewMach (X : LX) (hs : Addr → Option Obj) (env : Env) (vars : List Str) (ρ : LLoc) (h : Heap) (i : Nat) (y : Value) (σ : M) (mv : Nat) : Prop :=
  mv ≠ i ∧ ∃ I D L xs nm, y = .ref I ∧ Mch X hs env vars ρ h I D L xs nm σ mv ∧ ∀ j nj τ m J, j ≠ i → vars[j]? = some nj → ρ.at j = some (.mpu τ m) → VarAt env h nj (.ref J) → h.get? J ≠ some (instObj X.x.C D)
theorem FrR.stored (R : FrR X hs N₀ env vars ρ W h) (nd : vars.Nodup) {i : Nat} {n : Str} {v : LV} {y : Value} (S : StoreR hs env n y h h') (hi : vars[i]? = some n) (hf : free ρ i = true) (rv : RVar N₀ W h' v y)
    (ho : ∀ a, Ow v = true → y = .ref a → ∀ j nj w, j ≠ i → vars[j]? = some nj → ρ.at j = some w → Ow w = true → ¬ VarAt env h nj (.ref a)) (hm : ∀ σ mv, v = .mpu σ mv → NewMach X hs env vars ρ h i y σ mv) : FrR X hs N₀ env vars (ρ.set i (some v)) W h' := by
  have fr := free_of hf
  have hlt : i < ρ.length := by rw [R.len]; exact (List.getElem?_eq_some_iff.mp hi).1
  have ev := S.evo
  obtain ⟨z, oz, ez, sz, hz, zk, keep, _⟩ := S.same
  have tb : TabInv h' := R.rd.tab.keep fun b o vs e d => keep b o (fun q => by
    rw [q, ez] at e; (injection e with e; subst e)
    rcases zk with q' | ⟨u, d'⟩
    · obtain ⟨m, o3, _, _, e3, d3, _⟩ := R.locNs
      rw [← q', ez] at e3; (injection e3 with e3; subst e3); rw [d] at d3; injection d3
    · rw [d] at d'; injection d') e
  have ls : ∀ {a its}, PlainL h a its → PlainL h' a its := fun l => by obtain ⟨o, n, e, c, dn, d⟩ := l; exact ⟨o, n, ev _ o e (fun q => q) (by unfold isStore; rw [d]), c, dn, d⟩
  have vm : ∀ j nj y', j ≠ i → vars[j]? = some nj → VarAt env h nj y' → VarAt env h' nj y' := fun j nj y' q hj a => S.var nj y' (names_ne nd hi hj q) a
  have mo : ∀ {I D L xs nm σ mv}, mv ≠ i → Mch X hs env vars ρ h I D L xs nm σ mv → Mch X hs env vars (ρ.set i (some v)) h' I D L xs nm σ mv := fun {I D L xs nm σ mv} q M => by
    obtain ⟨its, l, ia⟩ := M.mr.mem
    obtain ⟨mm, ns, _⟩ := M.mr.ns
    have st : ∀ {b o}, h.get? b = some o → isStore o = false → b ≠ z := fun e s q => by rw [q, ez] at e; (injection e with e; subst e); rw [sz] at s; injection s
    refine ⟨by rw [LLoc.at_ne q]; exact M.own, M.nam, vm mv nm _ q M.nam M.vL, M.mr.move (Z := fun b => b = z) (xs := xs) keep (fun b o e q => ?_) (st M.mr.inst rfl) (fun q => ?_) (fun b f s e => st e rfl) (ls l) ia M.mr.sz tb, M.hD, M.d0, M.l0, M.Dl⟩
    · have := R.up b o e; rw [q, hz] at this; injection this
    · obtain ⟨o2, es, ep, e2, d2, _⟩ := ns.ns
      have q : D = z := q
      rcases zk with q' | ⟨u, d⟩
      · exact M.Dl (q.trans q')
      · have e2 : h.get? D = some o2 := e2
        rw [q, ez] at e2; (injection e2 with e2; subst e2); rw [d] at d2; injection d2
  refine R.upd (Z := fun b => b = z) tb i _ keep (fun b q => q ▸ hz) S.loc S.cel (fun a w => by obtain ⟨its, l⟩ := R.rd.lists a w; exact ⟨its, ls l⟩) (by rw [List.length_set]; exact R.len) (fun j q => LLoc.at_ne q) vm (fun _ _ _ _ _ _ _ _ r => r.evo0 ev)
    (fun j nj σ mv I D L xs nm q hj hu va M => ⟨xs, mo (fun e => fr j σ (e ▸ hu)) M⟩) (fun n' u hn hu => ?_) (fun n' u a hn hu ow va => ?_) (fun n' σ mv I D hn hu va e => ?_)
  all_goals (rw [hi] at hn; (injection hn with hn; subst hn); rw [LLoc.at_self hlt] at hu; (injection hu with hu; subst hu))
  · refine ⟨⟨y, S.self, rv⟩, fun σ mv e => ?_⟩
    obtain ⟨q, I, D, L, xs, nm, rfl, M, _⟩ := hm σ mv e
    exact ⟨I, D, L, xs, nm, S.self, mo q M⟩
  · exact ho a ow (S.self.unique va)
  · obtain ⟨q, I', D', L, xs, nm, e', M, no⟩ := hm σ mv rfl
    have M' := mo q M
    rw [e'] at S
    cases S.self.unique va
    have e2 : h'.get? I = some (instObj X.x.C D') := M'.mr.inst
    rw [e2] at e
    obtain rfl : D' = D := by injection e with e; injection e with _ e; injection e
    exact no
end
end Mine

end
section
open PySem PySem.W PyProof.Rows
set_option maxRecDepth 100000
set_option maxHeartbeats 1000000
set_option linter.unusedSimpArgs false
set_option linter.unusedVariables false
namespace Mine
structure Aft (X : LX) (hs : Addr → Option Obj) (N₀ : Addr → Prop) (env : Env) (vars : List Str) (W : Addr → Prop) (s : Shared) (ρ' : LLoc) (W' : Addr → Prop) (s' : Shared) : Prop where
  fr : FrR X hs N₀ env vars ρ' W' s'.heap
  new : ∀ a, W' a → W a ∨ s.heap.get? a = none
  evo : Evo W s.heap s'.heap
  live : Live s.heap s'.heap
  ks : Ks s s'
section
variable {X : LX} {hs : Addr → Option Obj} {N₀ : Addr → Prop} {env : Env} {k : LC} {ρ ρ' ρ'' : LLoc} {W W' W'' : Addr → Prop} {s s' s'' : Shared} {A : Around} {E' : Value → Shared → Prop}
theorem Evo.mono {h h' : Heap} (e : Evo W h h') (q : ∀ a, W a → W' a) : Evo W' h h' := fun b o e' n st => e b o e' (fun w => n (q b w)) st
theorem Aft.trans (a : Aft X hs N₀ env k.vars W s ρ' W' s') (b : Aft X hs N₀ env k.vars W' s' ρ'' W'' s'') : Aft X hs N₀ env k.vars W s ρ'' W'' s'' := by
  refine ⟨b.fr, fun x w => ?_, fun x o e n st => ?_, fun x o e => ?_, a.ks.trans b.ks⟩
  · rcases b.new x w with q | q
    · exact a.new x q
    · right
      cases e : s.heap.get? x with
      | none => rfl
      | some o => obtain ⟨o', e', _⟩ := a.live x o e; rw [q] at e'; injection e'
  · refine b.evo x o (a.evo x o e n st) (fun w => ?_) st
    rcases a.new x w with q | q
    · exact n q
    · rw [q] at e; injection e
  · obtain ⟨o', e', t1⟩ := a.live x o e; obtain ⟨o2, e2, t2⟩ := b.live x o' e'; exact ⟨o2, e2, t1.trans t2⟩
theorem Aft.of_kg (R : FrR X hs N₀ env k.vars ρ W s.heap) (g : Kg s s') : Aft X hs N₀ env k.vars W s ρ W s' :=
  ⟨R.grow g.grow, fun _ w => .inl w, .of_grow g.grow, fun b o e => ⟨o, g.grow b o e, .same⟩, g.ks⟩
theorem Aft.refl (R : FrR X hs N₀ env k.vars ρ W s.heap) : Aft X hs N₀ env k.vars W s ρ W s := .of_kg R .refl
theorem Aft.val (a : Aft X hs N₀ env k.vars W s ρ' W' s') (R : FrR X hs N₀ env k.vars ρ W s.heap) {v : LV} {y : Value} (r : RV (nn N₀ W) s.heap v y) : RV (nn N₀ W') s'.heap v y := by
  refine r.keep2 (a.evo.seqk (fun b w => .inr w) fun b w => R.rd.lists b (.inr w)) fun b ⟨o, e⟩ q => ?_
  rcases q with q | q
  · exact .inl q
  · rcases a.new b q with z | z
    · exact .inr z
    · rw [z] at e; injection e
theorem stored_aft (EF : EnvF env k) (R : FrR X hs N₀ env k.vars ρ W s.heap) {i : Nat} {n : Str} {v : LV} {y : Value} (hi : k.vars[i]? = some n) (hf : free ρ i = true) (hset : setL ρ i v = some ρ') (rv : RVar N₀ W s.heap v y)
    (ho : ∀ a, Ow v = true → y = .ref a → ∀ j nj w, j ≠ i → k.vars[j]? = some nj → ρ.at j = some w → Ow w = true → ¬ VarAt env s.heap nj (.ref a)) (hm : ∀ σ mv, v = .mpu σ mv → NewMach X hs env k.vars ρ s.heap i y σ mv) {Q : Unit → Shared → Prop}
    (h : ∀ s', Aft X hs N₀ env k.vars W s ρ' W s' → Q () s') : wpAny (model X.x.prog X.x.w) A (storeName env n y) Q E' s := by
  obtain ⟨hlt, rfl⟩ := setL_of hset
  refine raw_store EF R (List.mem_of_getElem? hi) fun h' t' S => h _ ⟨R.stored EF.nodup S hi hf (rv.evo0 S.evo) ho hm, fun _ w => .inl w, S.evo.mono fun _ q => q.elim, fun b o e => ?_, ⟨h', t', rfl⟩⟩
  obtain ⟨z, oz, ez, sz, hz, zk, keep, lv⟩ := S.same
  by_cases q : b = z
  · subst q
    obtain ⟨o', e'⟩ := lv
    rw [ez] at e; (injection e with e; subst e)
    refine ⟨o', e', .no (tabb_d fun ps zz => ?_)⟩
    rcases zk with zk | ⟨u, d⟩
    · obtain ⟨m, o3, _, _, e3, d3, _⟩ := R.locNs
      rw [← zk, ez] at e3; (injection e3 with e3; subst e3); rw [d3] at zz; injection zz
    · rw [d] at zz; injection zz
  · exact ⟨o, keep b o q e, .same⟩
theorem putV_of {i : Nat} {v : LV} (h : putV ρ i v = some ρ') : stable v = true ∧ free ρ i = true ∧ setL ρ i v = some ρ' := by
  obtain ⟨q, h⟩ := cond_of h
  refine and_el q fun a b => ?_
  exact ⟨a, b, h⟩
theorem store_val (EF : EnvF env k) (R : FrR X hs N₀ env k.vars ρ W s.heap) {i : Nat} {n : Str} {v : LV} {y : Value} (hi : k.vars[i]? = some n) (hp : putV ρ i v = some ρ') (r : RV (nn N₀ W) s.heap v y) {Q : Unit → Shared → Prop}
    (h : ∀ s', Aft X hs N₀ env k.vars W s ρ' W s' → Q () s') : wpAny (model X.x.prog X.x.w) A (storeName env n y) Q E' s := by
  obtain ⟨st, hf, hset⟩ := putV_of hp
  exact stored_aft EF R hi hf hset r.var (fun a o => by cases v <;> first | exact absurd o Bool.false_ne_true | exact absurd st Bool.false_ne_true) (fun σ mv q => by rw [q] at st; injection st) h
theorem FrR.addW (R : FrR X hs N₀ env k.vars ρ W s.heap) (g : Kg s s') {a : Addr} (na : s.heap.get? a = none) {its : Array Value} (l : PlainL s'.heap a its) : Aft X hs N₀ env k.vars W s ρ (fun b => W b ∨ b = a) s' := by
  have gr := g.grow
  have R' := R.grow gr
  have hsa : hs a = none := by
    cases e : hs a with
    | none => rfl
    | some o => have := R.hb a o e; rw [na] at this; injection this
  have wk : ∀ {v : LV} {y : Value}, RV (nn N₀ W) s.heap v y → RV (nn N₀ fun b => W b ∨ b = a) s'.heap v y := fun r => by
    refine RV.grow (r.weak fun b ⟨o, e⟩ q => ?_) gr
    rcases q with q | q | q
    · exact .inl q
    · exact .inr q
    · rw [q, na] at e; injection e
  refine ⟨⟨⟨R'.rd.base, fun b w => ?_, fun i n v hi hv => ?_, R'.rd.mach, R'.rd.tab⟩, R'.up, R'.hb, fun b w => ?_, R'.locN, R'.locNs, R'.celN, R'.ownD, R'.mchD, R'.len, R'.n0⟩, fun b w => ?_, .of_grow gr, fun b o e => ⟨o, gr b o e, .same⟩, g.ks⟩
  · rcases w with w | w | w
    · exact R'.rd.lists b (.inl w)
    · exact R'.rd.lists b (.inr w)
    · subst w; exact ⟨its, l⟩
  · obtain ⟨y, va, r⟩ := R.rd.var i n v hi hv
    refine ⟨y, va.grow gr, ?_⟩
    cases v with
    | own xs => obtain ⟨b, its', e, w, l', ia⟩ := r.grow gr; exact ⟨b, its', e, .inl w, l', ia⟩
    | ownR xs =>
      obtain ⟨b, its', e, w, l', p, z⟩ := r
      refine ⟨b, its', e, .inl w, l'.keeps gr, p.mono fun _ _ q => RT.grow (q.weak fun b ⟨o, e⟩ q => ?_) gr, z⟩
      rcases q with q | q | q
      · exact .inl q
      · exact .inr q
      · rw [q, na] at e; injection e
    | mpu _ _ => trivial
    | «at» u => exact (wk (v := .at u) r).var
    | tup xs => exact (wk (v := .tup xs) r).var
    | rows xs => exact (wk (v := .rows xs) r).var
    | lists xs => exact (wk (v := .lists xs) r).var
  · rcases w with w | w
    · exact R.wnew b w
    · subst w; exact hsa
  · rcases w with w | w
    · exact .inl w
    · subst w; exact .inr na
theorem store_own (EF : EnvF env k) (R : FrR X hs N₀ env k.vars ρ W s.heap) (g : Kg s s') {i : Nat} {n : Str} {xs : List Int} {y : Value} (hi : k.vars[i]? = some n) (hf : free ρ i = true) (hset : setL ρ i (.own xs) = some ρ') {N : Addr → Prop} (r : RV N s'.heap (.ints xs) y) (nw : NewP s.heap s'.heap y) {Q : Unit → Shared → Prop}
    (h : ∀ W' s'', Aft X hs N₀ env k.vars W s ρ' W' s'' → Q () s'') : wpAny (model X.x.prog X.x.w) A (storeName env n y) Q E' s' := by
  obtain ⟨a, its, rfl, _, l, ia, z⟩ := r
  have l := plain_of l (nw a rfl).2
  have na := (nw a rfl).1
  have A1 := R.addW g na l
  refine stored_aft EF A1.fr hi hf hset ⟨a, its, rfl, .inr rfl, l, ia, z⟩ (fun b _ e2 j nj w _ hj hv ow va => ?_) (fun _ _ q => by injection q) fun s'' A2 => h _ s'' (A1.trans A2)
  (injection e2 with e2; subst e2)
  have va' := VarAt.down R g.grow hj hv va
  obtain ⟨y', vb, r⟩ := R.rd.var j nj _ hj hv
  obtain ⟨b', its', e, w, o, _, eo, _⟩ := r.ow ow
  have := va'.unique vb
  rw [e] at this; (injection this with this; subst this)
  rw [na] at eo; injection eo
theorem own_move {Z : Addr → Prop} {h' : Heap} (R : FrR X hs N₀ env k.vars ρ W s.heap) (tb : TabInv h') {i : Nat} {n : Str} {xs xs' : List Int} {a : Addr} {its' : Array Value} (hi : k.vars[i]? = some n) (hv : ρ.at i = some (.own xs)) (va : VarAt env s.heap n (.ref a))
    (l' : PlainL h' a its') (ia : IntsAre its'.toList xs') (z : xs'.length ≤ lim) (keep : KeepZ (fun b => b = a ∨ Z b) s.heap h') (zh : ∀ b, Z b → hs b = none) (zl : ¬ Z env.locals) (zc : ∀ n c, env.cells.lookup n = some c → ¬ Z c) (zs : ∀ b o, s.heap.get? b = some o → isStore o = false → ¬ Z b)
    (zd : ∀ j nj σ mv I D L xs nm, k.vars[j]? = some nj → ρ.at j = some (.mpu σ mv) → VarAt env s.heap nj (.ref I) → Mch X hs env k.vars ρ s.heap I D L xs nm σ mv → ¬ Z D) : FrR X hs N₀ env k.vars (ρ.set i (some (.own xs'))) W h' := by
  have hlt : i < ρ.length := by rw [R.len]; exact (List.getElem?_eq_some_iff.mp hi).1
  obtain ⟨y, vb, a', its, e, w, l, i0, z0⟩ := R.rd.var i n _ hi hv
  have := va.unique vb
  rw [e] at this; (injection this with this; subst this)
  obtain ⟨oa, ea, sa, ca, na, da⟩ := list_store l.isList
  have nst : ∀ {b o}, s.heap.get? b = some o → isStore o = true → b ≠ a := fun e st q => by rw [q, ea] at e; (injection e with e; subst e); rw [sa] at st; injection st
  have nl : ∀ m, s.heap.Ns env.locals m → ¬ (env.locals = a ∨ Z env.locals) := fun m hm q => by obtain ⟨o, eo, so⟩ := store_dict hm; rcases q with q | q; exact nst eo so q; exact zl q
  have nc : ∀ n c, env.cells.lookup n = some c → ¬ (c = a ∨ Z c) := fun n c hc q => by
    obtain ⟨_, v, hcell⟩ := R.celN n c hc
    obtain ⟨o, eo, so⟩ := store_cell hcell
    rcases q with q | q
    · exact nst eo so q
    · exact zc n c hc q
  have hl : hs a = none := R.wnew a w
  have zh' : ∀ b, (b = a ∨ Z b) → hs b = none := fun b q => by rcases q with q | q; exact q ▸ hl; exact zh b q
  have ls : ∀ {b its}, b ≠ a → PlainL s.heap b its → PlainL h' b its := fun q l => by obtain ⟨o, n, e, c, dn, d⟩ := l; exact ⟨o, n, keep _ o (fun z => by rcases z with z | z; exact q z; exact zs _ _ e (by unfold isStore; rw [d]) z) e, c, dn, d⟩
  obtain ⟨ml, nsl⟩ := R.locNs
  have nl := nl ml nsl
  have vm : ∀ nj y, VarAt env s.heap nj y → VarAt env h' nj y := fun nj y v => v.move keep nl nc
  have sq : SeqK (nn N₀ W) s.heap h' := fun b o s n e d q => keep b o (fun z => by
    rcases z with z | z
    · rw [z, ea] at e; (injection e with e; subst e); exact q ca (.inr (z ▸ w))
    · exact zs _ _ e (by unfold isStore; rw [d]) z) e
  refine R.upd (Z := fun b => b = a ∨ Z b) tb i _ keep zh' ⟨ml, nsl.at' fun o e => keep _ o nl e⟩ (fun n c hc => by obtain ⟨_, v, o, e, d⟩ := R.celN n c hc; exact ⟨v, o, keep _ _ (nc n c hc) e, d⟩)
    (fun b w => ?_) (by rw [List.length_set]; exact R.len) (fun j q => LLoc.at_ne q) (fun _ nj y _ _ v => vm nj y v) (fun j nj u y q hj hu va' r => r.keepS sq fun b its ow e _ l => ?_)
    (fun j nj σ mv I D L ys nm q hj hu vI M => ?_) (fun n' u hn hu => ?_) (fun n' u b hn hu _ vb' j nj w' q hj hv' ow => ?_) (fun n' σ mv I D hn hu => by rw [LLoc.at_self hlt] at hu; cases hu)
  · by_cases q : b = a
    · subst q; exact ⟨its', l'⟩
    · obtain ⟨its2, l2⟩ := R.rd.lists b w; exact ⟨its2, ls q l2⟩
  · subst e
    exact ls (fun z => q (R.ownD j i nj n _ _ a hj hi hu hv ow rfl (z ▸ va') va)) l
  · obtain ⟨mm, ns, _⟩ := M.mr.ns
    have st : ∀ {b o}, s.heap.get? b = some o → isStore o = false → o.cls ≠ .type "list" → ¬ (b = a ∨ Z b) := fun e s c q => by
      rcases q with q | q
      · rw [q, ea] at e; (injection e with e; subst e); exact c ca
      · exact zs _ _ e s q
    have nmeth : ∀ b f s', s.heap.get? b = some (methodObj f s') → ¬ (b = a ∨ Z b) := fun b f s' e => st e rfl (fun q => by injection q with z; exact absurd z (by decide))
    have nI : ¬ (I = a ∨ Z I) := fun q => by
      rcases q with q | q
      · have e : s.heap.get? I = _ := M.mr.inst
        rw [q, ea] at e; (injection e with e; subst e); injection da
      · exact zs _ _ M.mr.inst rfl q
    have nD : ¬ (D = a ∨ Z D) := fun q => by
      rcases q with q | q
      · obtain ⟨o, eo, so⟩ := store_dict ns.ns; exact nst eo so q
      · exact zd j nj σ mv I D L ys nm hj hu vI M q
    have n0 : ∀ b o, X.x.h₀.get? b = some o → ¬ (b = a ∨ Z b) := fun b o e q => by have := R.up b o e; rw [zh' b q] at this; injection this
    by_cases q2 : mv = i
    · subst q2
      have := M.own; rw [hv] at this; cases this
      have := M.nam; rw [hi] at this; (injection this with this; subst this)
      cases va.unique M.vL
      exact ⟨xs', LLoc.at_self hlt, hi, vm _ _ M.vL, M.mr.move keep n0 nI nD nmeth l' ia (Nat.lt_of_le_of_lt z (by decide)) tb, M.hD, M.d0, M.l0, M.Dl⟩
    · obtain ⟨itL, lL, iL⟩ := M.mr.mem
      exact ⟨ys, by rw [LLoc.at_ne q2]; exact M.own, M.nam, vm _ _ M.vL, M.mr.move keep n0 nI nD nmeth (ls (fun z => q2 (R.ownD mv i nm n _ _ a M.nam hi M.own hv rfl rfl (z ▸ M.vL) va)) lL) iL M.mr.sz tb, M.hD, M.d0, M.l0, M.Dl⟩
  · rw [hi] at hn; (injection hn with hn; subst hn)
    rw [LLoc.at_self hlt] at hu; (injection hu with hu; subst hu)
    exact ⟨⟨.ref a, vm _ _ va, a, its', rfl, w, l', ia, z⟩, fun _ _ e => nomatch e⟩
  · rw [hi] at hn; (injection hn with hn; subst hn)
    cases (vm _ _ va).unique vb'
    exact fun v => q (R.ownD j i nj n _ _ a hj hi hv' hv ow rfl v va)
theorem tabL {h h' : Heap} {a : Addr} {its : Array Value} (t : TabInv h) (l : PlainL h a its) (keep : ∀ b o, b ≠ a → h.get? b = some o → h'.get? b = some o) : TabInv h' := t.keep fun b o vs e d => keep b o (fun q => by
  obtain ⟨o2, _, e2, _, _, d2⟩ := l
  rw [q, e2] at e; (injection e with e; subst e); rw [d] at d2; injection d2) e
theorem own_upd (R : FrR X hs N₀ env k.vars ρ W s.heap) (EF : EnvF env k) {i : Nat} {n : Str} {xs xs' : List Int} {a : Addr} {its' : Array Value} {h' : Heap} {t' : Nat} (hi : k.vars[i]? = some n) (hv : ρ.at i = some (.own xs)) (va : VarAt env s.heap n (.ref a))
    (l' : PlainL h' a its') (ia : IntsAre its'.toList xs') (z : xs'.length ≤ lim) (sb : Heap.SameBut a s.heap h') (hset : setL ρ i (.own xs') = some ρ') : Aft X hs N₀ env k.vars W s ρ' W { s with heap := h', toks := t' } := by
  obtain ⟨hlt, rfl⟩ := setL_of hset
  obtain ⟨y, vb, a', its, e, w, l, _⟩ := R.rd.var i n _ hi hv
  have := va.unique vb
  rw [e] at this; (injection this with this; subst this)
  have keep : ∀ b o, b ≠ a → s.heap.get? b = some o → h'.get? b = some o := fun b o q e => by rw [sb.2 b q]; exact e
  refine ⟨own_move (Z := fun _ => False) R (tabL R.rd.tab l keep) hi hv va l' ia z (fun b o q => keep b o fun z => q (.inl z)) (fun _ q => q.elim) (fun q => q) (fun _ _ _ q => q) (fun _ _ _ _ q => q) (fun _ _ _ _ _ _ _ _ _ _ _ _ _ q => q), fun _ w => .inl w, fun b o e n _ => keep b o (fun q => n (q ▸ w)) e, fun b o e => ?_, ⟨h', t', rfl⟩⟩
  by_cases q : b = a
  · obtain ⟨o', _, e', _⟩ := l'
    obtain ⟨oq, eq, _, _, nq, dq⟩ := list_store l.isList
    have ho : oq = o := Option.some.inj (eq.symm.trans (q ▸ e))
    exact ⟨o', q ▸ e', .no (tabb_d fun ps z => by rw [← ho, dq] at z; injection z)⟩
  · exact ⟨o, keep b o q e, .same⟩
end
end Mine

end
section
open PySem PySem.W PyProof.Rows
set_option maxRecDepth 100000
set_option maxHeartbeats 1000000
set_option linter.unusedSimpArgs false
set_option linter.unusedVariables false
set_option linter.unusedSectionVars false
namespace Mine
section
variable {X : LX} {hs : Addr → Option Obj} {N₀ : Addr → Prop} {env : Env} {k : LC} {ρ ρ' ρ'' : LLoc} {W W' W'' : Addr → Prop} {s s' s'' : Shared} {A : Around} {E' : Value → Shared → Prop}
end
end Mine

end
section
open PySem PySem.W PyProof.Rows
set_option maxRecDepth 100000
set_option maxHeartbeats 1000000
set_option linter.unusedSimpArgs false
set_option linter.unusedVariables false
set_option linter.unusedSectionVars false
namespace Mine
section
variable {X : LX} {A : Around} {cf : Nat → List LV → Option LV} {k : LC} {env : Env} {hs : Addr → Option Obj} {N₀ : Addr → Prop}
theorem tgs_cons {v : Nat} {vs : List Nat} {l : List PySem.Expr} (h : trTgs k (v :: vs) l = true) : ∃ n p l', l = .Name n p :: l' ∧ k.isVar v n = true ∧ trTgs k vs l' = true := by
  apply o_cons_elim h; intro x l h
  apply o_Name_elim h; intro n p h
  refine and_el h fun h1 h2 => ?_
  exact ⟨_, _, _, rfl, h1, h2⟩
theorem tgs_nil {l : List PySem.Expr} (h : trTgs k [] l = true) : l = [] := List.isEmpty_iff.mp h
theorem each_len {F : List FnD} (vs : List Nat) : ∀ {l : List PySem.Expr}, trTgs k vs l = true → (assignEach l env).length = vs.length ∧ (assignEach l env).findIdx? (·.1) = none := by
  induction vs with
  | nil => intro l h; rw [tgs_nil h]; exact ⟨rfl, rfl⟩
  | cons v vs ih =>
    intro l h
    obtain ⟨n, p, l', rfl, h1, h2⟩ := tgs_cons h
    obtain ⟨a, b⟩ := ih h2
    refine ⟨?_, ?_⟩
    · show ((false, assign (.Name n p) env) :: assignEach l' env).length = _
      rw [List.length_cons, a]; rfl
    · show ((false, assign (.Name n p) env) :: assignEach l' env).findIdx? (·.1) = none
      rw [List.findIdx?_cons, b]; rfl
theorem assign_names (EF : EnvF env k) (vs : List Nat) : ∀ (l : List PySem.Expr) (xs : List At) (ys : List Value) (ρ ρ' : LLoc) (W : Addr → Prop) (s : Shared) (Q : Unit → Shared → Prop) (E' : Value → Shared → Prop), trTgs k vs l = true → bindTs vs xs ρ = some ρ' → FrR X hs N₀ env k.vars ρ W s.heap →
    Paired (RA (nn N₀ W) s.heap) xs ys → (∀ s', Aft X hs N₀ env k.vars W s ρ' W s' → Q () s') → wpAny (model X.x.prog X.x.w) A (assignInOrder ((assignEach l env).map (·.2)) ys) Q E' s := by
  induction vs with
  | nil =>
    intro l xs ys ρ ρ' W s Q E' ht hb R pr h
    cases tgs_nil ht
    cases pr with
    | nil => (injection hb with hb; subst hb); exact wpAny_pure (h s (.refl R))
    | cons _ _ => injection hb
  | cons v vs ih =>
    intro l xs ys ρ ρ' W s Q E' ht hb R pr h
    obtain ⟨n, p, l', rfl, h1, h2⟩ := tgs_cons ht
    cases pr with
    | nil => injection hb
    | cons r pr =>
      rename_i x y xs ys
      refine bind_el hb fun ρ₁ hp hb => ?_
      show wpAny _ A (do holding ys (assign (.Name n p) env y); assignInOrder ((assignEach l' env).map (·.2)) ys) Q E' s
      refine wpAny_bind (wpAny_holding (wpAny_assign_Name (store_val EF R (isVarL_of h1) hp (v := .at x) r fun s₁ a₁ => ?_)))
      exact ih l' xs ys ρ₁ ρ' W s₁ Q E' h2 hb a₁.fr (pr.mono fun u y q => a₁.val R (v := .at u) q) fun s' a₂ => h s' (a₁.trans a₂)
theorem ext_kg {s : Shared} {h' : Heap} (e : Heap.ExtBut s.heap.objs.size s.heap h') : Kg s { s with heap := h' } := ⟨h', s.toks, rfl, fun b o q => e b o (Nat.ne_of_lt (Heap.lt_size q)) q⟩
theorem bindTs_len : ∀ (vs : List Nat) (xs : List At) {ρ ρ' : LLoc}, bindTs vs xs ρ = some ρ' → vs.length = xs.length
  | [], [], _, _, _ => rfl
  | v :: vs, x :: xs, _, _, h => by
    refine bind_el h fun _ _ h => ?_
    exact congrArg (· + 1) (bindTs_len vs xs h)
  | [], _ :: _, _, _, h => nomatch h
  | _ :: _, [], _, _, h => nomatch h
theorem bind_ok (hh : A.handled = none) (EF : EnvF env k) {tg : LTg} {t : PySem.Expr} {x : LV} {y : Value} {ρ ρ' : LLoc} {W : Addr → Prop} {s : Shared} {Q : Unit → Shared → Prop} {E' : Value → Shared → Prop} (ht : trTg k tg t = true) (hb : bindTg tg x ρ = some ρ') (R : FrR X hs N₀ env k.vars ρ W s.heap)
    (r : RV (nn N₀ W) s.heap x y) (h : ∀ s', Aft X hs N₀ env k.vars W s ρ' W s' → Q () s') : wpAny (model X.x.prog X.x.w) A (assign t env y) Q E' s := by
  cases tg with
  | one v =>
    apply o_Name_elim ht; intro n p ht
    exact wpAny_assign_Name (store_val EF R (isVarL_of ht) hb r h)
  | many vs =>
    apply o_Tuple_elim ht; intro l _ _ ht
    refine and_el ht fun h1 h2 => ?_
    refine bind_el hb fun xs hx hb => ?_
    cases LV.tup?_of hx
    obtain ⟨a, its, rfl, l, p⟩ := r
    obtain ⟨e1, e2⟩ := each_len (F := X.F) (env := env) _ h1
    refine wpAny_assign_Tuple hh l (by rw [e1, bindTs_len _ _ hb, p.length, Array.length_toList]) e2 fun h' ex => ?_
    have kg := ext_kg ex
    exact assign_names EF _ _ _ _ _ _ W _ Q E' h1 hb (R.grow kg.grow) (p.mono fun u y q => q.grow kg.grow) fun s' a => h s' ((Aft.of_kg R kg).trans a)
end
end Mine

end
section
open PySem PySem.W PyProof.Rows
set_option maxRecDepth 100000
set_option maxHeartbeats 1000000
set_option linter.unusedSimpArgs false
set_option linter.unusedVariables false
set_option linter.unusedSectionVars false
namespace Mine
section
variable {X : LX} {A : Around} {cf : Nat → List LV → Option LV} {k : LC} {env : Env} {hs : Addr → Option Obj} {N₀ : Addr → Prop}
theorem FrR.offI {hs : Addr → Option Obj} {N₀ : Addr → Prop} {env : Env} {vars : List Str} {ρ : LLoc} {W : Addr → Prop} {h h' : Heap} {I : Addr} (R : FrR X hs N₀ env vars ρ W h) (keep : ∀ b o, b ≠ I → h.get? b = some o → h'.get? b = some o)
    (kI : ∃ o vs, h.get? I = some o ∧ o.data = .fields vs ∧ ItO o vs) (hI : hs I = none) : FrR X hs N₀ env vars ρ W h' := by
  obtain ⟨oI, vs, eI, dI, cI⟩ := kI
  have ne : ∀ {b : Addr} {o : Obj}, h.get? b = some o → (∀ vs, o.data ≠ .fields vs) → b ≠ I := fun e d q => by rw [q, eI] at e; (injection e with e; subst e); exact d vs dI
  refine R.same (Z := fun b => b = I) (R.rd.tab.keepZ (Z := fun b => b = I) keep fun b o vs' q e d => by rw [q, eI] at e; (injection e with e; subst e); rw [d] at dI; (injection dI with dI; subst dI); exact cI.2) keep (fun b q => q ▸ hI) ?_ (fun n c hc => ?_) (fun b o a n e d => ne e fun vs q => by rw [d] at q; injection q) (fun b f s e q => by rw [q, eI] at e; (injection e with e; subst e); exact cI.1 rfl) (fun b C D e => ne e fun vs q => nomatch q) (fun b m n => ?_)
  · obtain ⟨m, o, es, ep, e, d, _⟩ := R.locNs
    exact ne e fun vs q => by rw [d] at q; injection q
  · obtain ⟨_, v, o, e, d⟩ := R.celN n c hc
    exact ne e fun vs q => by rw [d] at q; injection q
  · obtain ⟨o, es, ep, e, d, _⟩ := n
    exact ne e fun vs q => by rw [d] at q; injection q
structure CompT (tg : List Str) (sc : Scope) : Prop where
  kind : sc.kind = .function
  dbg : ∀ n ∈ tg, (n == ("__debug__" : Str)) = false
  loc : ∀ n ∈ tg, sc.names.lookup n = some .local
  nd : tg.Nodup
  cell : ∀ y ∈ sc.names, y.2 ≠ .cell
  free : ∀ y ∈ sc.names, y.2 ≠ .free
  locs : ∀ y ∈ sc.names, y.2 = .local → sc.names.lookup y.1 = some .local
theorem CompT.names {tg : List Str} {sc : Scope} (C : CompT tg sc) (env : Env) : (relabel sc env).names = sc.names := by
  show sc.names.map _ = _
  refine (List.map_congr_left fun y hy => ?_).trans (List.map_id _)
  obtain ⟨n, kd⟩ := y
  have : (kd == NameKind.free) = false := beq_eq_false_iff_ne.mpr (C.free _ hy)
  show (if (kd == NameKind.free && _ && _) = true then _ else _) = _
  rw [this]
  rfl
end
end Mine

end
section
open PySem PySem.W PyProof.Rows
set_option maxRecDepth 100000
set_option maxHeartbeats 1000000
set_option linter.unusedSimpArgs false
set_option linter.unusedVariables false
set_option linter.unusedSectionVars false
namespace Mine
section
variable {X : LX} {A : Around} {cf : Nat → List LV → Option LV}
noncomputable def rowF (cf : Nat → List LV → Option LV) (tg : List Str) (elts : LEs) (it : LV) : Option (List At) := it.tup?.bind fun xs => (bindTs (List.range tg.length) xs (List.replicate tg.length none)).bind fun ρ' => (evLs cf elts ρ').bind fun vs => if vs.length ≤ lim then mapO asAt vs else none
noncomputable def CI (X : LX) (N : Addr → Prop) (cenv : Env) (tg : List Str) (hp : Heap) (D : Addr) (St : Nat → Heap → Prop) (rs : List (List At)) (m : Nat) (s₂ : Shared) (n : Nat) (s : Shared) : Prop :=
  ∃ i ρ ys, i ≤ m ∧ n = m - i ∧ FrR X (fun b => hp.get? b) N cenv tg ρ (fun b => b = D) s.heap ∧ St i s.heap ∧ PlainL s.heap D ys ∧ Paired (RT (nn N fun b => b = D) s.heap) (rs.take i) ys.toList ∧ Ks s₂ s
end
end Mine

end
section
open PySem PySem.W PyProof.Rows
set_option maxRecDepth 100000
set_option maxHeartbeats 1000000
set_option linter.unusedSimpArgs false
set_option linter.unusedVariables false
namespace Mine
section
variable {X : LX} {A : Around} {cf : Nat → List LV → Option LV}
end
end Mine

end
section
open PySem PySem.W PyProof.Rows
set_option maxRecDepth 100000
set_option maxHeartbeats 1000000
set_option linter.unusedSimpArgs false
set_option linter.unusedVariables false
namespace Mine
section
variable {X : LX} {A : Around} {cf : Nat → List LV → Option LV}
theorem g_nil : GoodEs X A cf .nil := by
  intro k env ρ hs N₀ W l vs pos ht he EL KO hl s Q E' R h
  cases l with
  | nil => (injection he with he; subst he); exact args_nil (h _ s .nil .refl)
  | cons _ _ => injection ht
theorem g_cons {e : LE} {r : LEs} (ge : GoodE X A cf e) (gr : GoodEs X A cf r) : GoodEs X A cf (.cons e r) := by
  intro k env ρ hs N₀ W l vs pos ht he EL KO hl s Q E' R h
  cases l with
  | nil => injection ht
  | cons x l =>
    refine and_el ht fun ht hr => ?_
    refine and_el ht fun hp hx => ?_
    refine bind_el he fun v hv he => ?_
    obtain ⟨vs', hvs, e⟩ := map_of he
    subst e
    refine args_cons (ge k env ρ hs N₀ W _ v hx hv EL KO hl s _ _ R fun y s₁ ry k₁ => gr k env ρ hs N₀ W l vs' pos hr hvs EL KO hl s₁ _ _ (R.grow k₁.grow) fun ys s₂ p k₂ => ?_) (plainL_star hp env l)
    exact h _ s₂ (.cons (fl_true (ry.grow k₂.grow) fun q => (Bool.and_eq_true_iff.mp q).1) (p.mono fun _ _ q => fl_true q fun z => (Bool.and_eq_true_iff.mp z).2)) (k₁.trans k₂)
noncomputable def plainX : PySem.Expr → Bool
  | .Name .. => true | .Constant .. => true | .BinOp .. => true | .Subscript .. => true | .Call .. => true | .List .. => true | .Tuple .. => true | .Attribute .. => true | .ListComp .. => true
  | .UnaryOp .USub _ _ => true
  | _ => false
theorem plainX_is {ex : PySem.Expr} {env : Env} (h : plainX ex = true) : isTrue ex env (eval ex env) = (do let v ← eval ex env; standAt ex.pos; holding [v] (truthy v)) := by
  cases ex with
  | UnaryOp o _ _ => cases o <;> first | rfl | injection h
  | _ => first | rfl | injection h

variable (OK : LOk X) {d : Nat} (ao : AOk A (d + 1)) (hcf : CallLOk X A cf)
theorem ET {e : LE} (g : GoodE X A cf e) (h : ∀ k ex, trL X.F k e ex = true → plainX ex = true) : GoodE X A cf e ∧ GoodT X A cf e := ⟨g, goodT_of g fun k ex _ ht => plainX_is (h k ex ht)⟩
theorem g_ifeT {t a b : LE} (tt : GoodT X A cf t) (ta : GoodT X A cf a) (tb : GoodT X A cf b) : GoodT X A cf (.ife t a b) := by
  intro k env ρ hs N₀ W ex v c ht he hc EL KO hl s Q E' R h
  refine inv_trL_ife ht fun _ _ _ _ hx₀ ht => ?_
  subst hx₀
  refine and_el ht fun ht hb => ?_
  refine and_el ht fun hx ha => ?_
  refine bind_el he fun x ex he => ?_
  refine bind_el he fun q hv he => ?_
  rw [arm_isTrue_IfExp]
  refine wpAny_bind (tt k env ρ hs N₀ W _ _ q hx ex hv EL KO hl s _ _ R fun s₁ ka => ?_)
  cases q
  · exact tb k env ρ hs N₀ W _ _ c hb he hc EL KO hl s₁ _ _ (R.grow ka.grow) fun s₂ kb => h s₂ (ka.trans kb)
  · exact ta k env ρ hs N₀ W _ _ c ha he hc EL KO hl s₁ _ _ (R.grow ka.grow) fun s₂ kb => h s₂ (ka.trans kb)
include OK ao hcf
mutual
theorem sound_L : ∀ e : LE, GoodE X A cf e ∧ GoodT X A cf e
  | .int i => ET (g_int i) (fun k ex ht => by refine inv_trL_int ht fun _ _ _ hx₀ ht => ?_; subst hx₀; rfl)
  | .bool b => ET (g_bool b) (fun k ex ht => by refine inv_trL_bool ht fun _ _ _ hx₀ ht => ?_; subst hx₀; rfl)
  | .none => ET g_none (fun k ex ht => by refine inv_trL_none ht fun _ _ hx₀ ht => ?_; subst hx₀; rfl)
  | .var v => ET (g_var v) (fun k ex ht => by refine inv_trL_var ht fun _ _ hx₀ ht => ?_; subst hx₀; rfl)
  | .own v => ET (g_own v) (fun k ex ht => by refine inv_trL_own ht fun _ _ hx₀ ht => ?_; subst hx₀; rfl)
  | .bin op a b => ET (g_bin (sound_L a).1 (sound_L b).1).toE (fun k ex ht => by refine inv_trL_bin ht fun _ _ _ _ hx₀ ht => ?_; subst hx₀; rfl)
  | .cmp op a b => g_cmp (by have := ao.un; omega) (sound_L a).1 (sound_L b).1
  | .or a b => g_or (sound_L a).1 (sound_L b).1 (sound_L a).2 (sound_L b).2
  | .not a => g_not (sound_L a).1 (sound_L a).2
  | .ife t a b => ⟨g_ife (sound_L t).2 (sound_L a).1 (sound_L b).1, g_ifeT (sound_L t).2 (sound_L a).2 (sound_L b).2⟩
  | .idx a i => ET (g_idx (sound_L a).1 (sound_L i).1) (fun k ex ht => by refine inv_trL_idx ht fun _ _ _ hx₀ ht => ?_; subst hx₀; rfl)
  | .slc a lo hi => ET (g_slc (sound_L a).1 (sound_L lo).1 (sound_L hi).1).toE (fun k ex ht => by refine inv_trL_slc ht fun _ _ _ _ _ _ hx₀ ht => ?_; subst hx₀; rfl)
  | .len a => ET (g_len OK (sound_L a).1) (fun k ex ht => by refine inv_trL_len ht fun _ _ _ _ hx₀ ht => ?_; subst hx₀; rfl)
  | .disp es => ET (g_disp (sound_Ls es)).toE (fun k ex ht => by refine inv_trL_disp ht fun _ _ hx₀ ht => ?_; subst hx₀; rfl)
  | .tup es => ET (g_tup (sound_Ls es)) (fun k ex ht => by refine inv_trL_tup ht fun _ _ _ hx₀ ht => ?_; subst hx₀; rfl)
  | .attr v f => ET (g_attr OK v f) (fun k ex ht => by refine inv_trL_attr ht fun _ _ _ _ hx₀ ht => ?_; subst hx₀; rfl)
  | .told v => ET (g_told OK ao v) (fun k ex ht => by refine inv_trL_told ht fun _ _ _ _ _ hx₀ ht => ?_; subst hx₀; rfl)
  | .comp elt caps src => ET (g_comp (sound_L elt).1 (sound_Src src)) (fun k ex ht => by refine inv_trL_comp ht fun _ _ _ _ _ _ _ _ hx₀ ht => ?_; subst hx₀; rfl)
theorem sound_Ls : ∀ es : LEs, GoodEs X A cf es
  | .nil => g_nil
  | .cons e r => g_cons (sound_L e).1 (sound_Ls r)
theorem sound_Src : ∀ src : LSrc, GoodS X A cf src
  | .rng e => g_rng OK ao.hh (sound_L e).1
  | .lst e => g_lst ao.hh (sound_L e).1
end
theorem sound_F : ∀ e : LE, freshE e = true → GoodF X A cf e
  | .bin op a b, _ => g_bin (sound_L OK ao hcf a).1 (sound_L OK ao hcf b).1
  | .slc a lo hi, _ => g_slc (sound_L OK ao hcf a).1 (sound_L OK ao hcf lo).1 (sound_L OK ao hcf hi).1
  | .disp es, _ => g_disp (sound_Ls OK ao hcf es)
  | .int i, h => by injection h
  | .bool b, h => by injection h
  | .none, h => by injection h
  | .var v, h => by injection h
  | .own v, h => by injection h
  | .cmp op a b, h => by injection h
  | .or a b, h => by injection h
  | .not a, h => by injection h
  | .ife t a b, h => by injection h
  | .idx a i, h => by injection h
  | .len a, h => by injection h
  | .tup es, h => by injection h
  | .attr v f, h => by injection h
  | .told v, h => by injection h
  | .comp elt caps src, h => by injection h
end
end Mine

end
section
open PySem PySem.W PyProof.Rows
set_option maxRecDepth 100000
set_option maxHeartbeats 1000000
set_option linter.unusedSimpArgs false
set_option linter.unusedVariables false
namespace Mine
section
variable {X : LX} {hs : Addr → Option Obj} {N₀ : Addr → Prop} {env : Env} {k : LC} {ρ ρ' ρ'' : LLoc} {W W' W'' : Addr → Prop} {s s' s'' : Shared} {A : Around} {E' : Value → Shared → Prop} {h : Heap}
theorem FrR.put (R : FrR X hs N₀ env k.vars ρ W h) (v : Nat) (o : Option LV) {n : Str} (hn : k.vars[v]? = some n) (hv : ∀ xs, ρ.at v ≠ some (.own xs)) (no : ∀ u, o = some u → Ow u = false)
    (hm : ∀ u, o = some u → ∃ σ mv y, u = .mpu σ mv ∧ VarAt env h n y ∧ NewMach X hs env k.vars ρ h v y σ mv) : FrR X hs N₀ env k.vars (ρ.set v o) W h := by
  have hlt : v < ρ.length := by rw [R.len]; exact (List.getElem?_eq_some_iff.mp hn).1
  have mo : ∀ {I D L xs nm σ mv}, Mch X hs env k.vars ρ h I D L xs nm σ mv → Mch X hs env k.vars (ρ.set v o) h I D L xs nm σ mv := fun M => ⟨by rw [LLoc.at_ne fun q => hv _ (q ▸ M.own)]; exact M.own, M.nam, M.vL, M.mr, M.hD, M.d0, M.l0, M.Dl⟩
  refine R.upd (Z := fun _ => False) R.rd.tab v _ (fun b o _ e => e) (fun _ q => q.elim) R.locNs (fun n c hc => (R.celN n c hc).2) R.rd.lists (by rw [List.length_set]; exact R.len) (fun j q => LLoc.at_ne q) (fun _ _ _ _ _ v => v) (fun _ _ _ _ _ _ _ _ r => r)
    (fun j nj σ mv I D L xs nm _ _ _ _ M => ⟨xs, mo M⟩) (fun n' u hn' hu => ?_) (fun n' u a hn' hu ow => absurd ow (by rw [no u ((LLoc.at_self hlt).symm.trans hu)]; exact Bool.false_ne_true)) (fun n' σ mv I D hn' hu va e => ?_)
  all_goals (rw [hn] at hn'; (injection hn' with hn'; subst hn'); rw [LLoc.at_self hlt] at hu)
  · obtain ⟨σ, mv, y, rfl, va, _, I, D, L, xs, nm, rfl, M, _⟩ := hm u hu
    exact ⟨⟨_, va, trivial⟩, fun σ' mv' e => by cases e; exact ⟨I, D, L, xs, nm, va, mo M⟩⟩
  · obtain ⟨σ', mv', y, e', va', _, I', D', L, xs, nm, rfl, M, no'⟩ := hm _ hu
    (injection e' with e'; subst e')
    cases va.unique va'
    have e2 : h.get? I = some (instObj X.x.C D') := M.mr.inst
    rw [e2] at e
    obtain rfl : D' = D := by injection e with e; injection e with _ e; injection e
    exact no'
theorem Mr.parts {x : Cx} {σ : M} (m : Mr x σ h) : ∃ o es ep, h.get? x.D = some o ∧ isStore o = true ∧ o.data = .dict es ep := by
  obtain ⟨mm, n, _⟩ := m.ns
  obtain ⟨o, es, ep, e, d, _⟩ := n.ns
  exact ⟨o, es, ep, e, by unfold isStore; rw [d], d⟩
theorem small_at (OK : LOk X) (I D L : Addr) : Small (X.at I D L) := ⟨OK.sm.tab, OK.sm.ins⟩
noncomputable def HsT (hs : Addr → Option Obj) : Prop := ∀ b o, hs b = some o → tabb o = false
theorem tab_store {o : Obj} (h : tabb o = true) : isStore o = true := by
  unfold isStore
  cases d : o.data with
  | dict _ _ => rfl
  | cell _ => rfl
  | fields _ => exact h
  | _ => exact absurd (h.symm.trans (tabb_d fun ps z => by rw [d] at z; injection z)) (by decide)
theorem kp_aft (hT : HsT hs) (R : FrR X hs N₀ env k.vars ρ W s.heap) {σ' : M} {mv : Nat} {nm : Str} {xs : List Int} {I D L : Addr} (hi : k.vars[mv]? = some nm) (hv : ρ.at mv = some (.own xs)) (va : VarAt env s.heap nm (.ref L)) (hD : hs D = none) {oD : Obj} {es : Array DictEntry} {ep : Nat} (eD : s.heap.get? D = some oD) (dD : oD.data = .dict es ep) (lD : D ≠ env.locals)
    (kp : Kp [D, L] s s') (M' : Mr (X.at I D L) σ' s'.heap) (z : σ'.mem.length ≤ lim) (hd : ∀ j nj σ mv I' D' L' xs nm, k.vars[j]? = some nj → ρ.at j = some (.mpu σ mv) → VarAt env s.heap nj (.ref I') → Mch X hs env k.vars ρ s.heap I' D' L' xs nm σ mv → D' ≠ D) :
    Aft X hs N₀ env k.vars W s (ρ.set mv (some (.own σ'.mem))) W s' ∧ ∀ n y, VarAt env s.heap n y → VarAt env s'.heap n y := by
  obtain ⟨y, vb, a', its, e, w, l, i0, z0⟩ := R.rd.var mv nm _ hi hv
  have := va.unique vb
  rw [e] at this; (injection this with this; subst this)
  obtain ⟨its', l', ia⟩ := M'.mem
  obtain ⟨oD', _, _, eD', _⟩ := M'.parts
  obtain ⟨h', t', rfl, aw, lv⟩ := kp
  have keep : KeepZ (fun b => b = L ∨ (b = D ∨ ∃ o, s.heap.get? b = some o ∧ tabb o = true)) s.heap h' := fun b o q e => aw b o e (by
    cases h : tabb o with
    | false => rfl
    | true => exact absurd (.inr (.inr ⟨o, e, h⟩)) q) (by simp only [List.mem_cons, List.not_mem_nil, or_false]; exact fun z => q (z.elim (fun z => .inr (.inl z)) .inl))
  have Tb : ∀ b o, s.heap.get? b = some o → tabb o = false → ¬ ∃ o, s.heap.get? b = some o ∧ tabb o = true := fun b o e f q => by
    obtain ⟨o', e', t⟩ := q
    rw [e] at e'; injection e' with e'; subst e'; rw [f] at t; injection t
  have sD : isStore oD = true := by unfold isStore; rw [dD]
  have zD : ∀ b o, s.heap.get? b = some o → isStore o = false → b ≠ D := fun b o e st q => by rw [q, eD] at e; (injection e with e; subst e); rw [sD] at st; injection st
  have zs : ∀ b o, s.heap.get? b = some o → isStore o = false → ¬ (b = D ∨ ∃ o, s.heap.get? b = some o ∧ tabb o = true) := fun b o e st q => by
    rcases q with q | ⟨o', e', t⟩
    · exact zD b o e st q
    · rw [e] at e'; injection e' with e'; subst e'; rw [tab_store t] at st; injection st
  have zl : ¬ (env.locals = D ∨ ∃ o, s.heap.get? env.locals = some o ∧ tabb o = true) := fun q => by
    rcases q with q | q
    · exact lD q.symm
    · obtain ⟨m, o, es, ep, eo, d, _⟩ := R.locNs
      exact Tb _ o eo (tabb_d fun ps z => by rw [d] at z; injection z) q
  have zc : ∀ n c, env.cells.lookup n = some c → ¬ (c = D ∨ ∃ o, s.heap.get? c = some o ∧ tabb o = true) := fun n c hc q => by
    obtain ⟨_, v, o1, e1, d1⟩ := R.celN n c hc
    rcases q with q | q
    · rw [q, eD] at e1; (injection e1 with e1; subst e1); rw [dD] at d1; injection d1
    · exact Tb _ o1 e1 (tabb_d fun ps z => by rw [d1] at z; injection z) q
  have zh : ∀ b, (b = D ∨ ∃ o, s.heap.get? b = some o ∧ tabb o = true) → hs b = none := fun b q => by
    rcases q with q | ⟨o, e, t⟩
    · exact q ▸ hD
    · cases h : hs b with
      | none => rfl
      | some o' =>
        have e' := R.hb b o' h
        rw [e] at e'; injection e' with e'; subst e'
        have := hT b o h
        rw [t] at this; injection this
  obtain ⟨oa, ea, sa, _⟩ := list_store l.isList
  have nst : ∀ {b o}, s.heap.get? b = some o → isStore o = true → b ≠ L := fun e st q => by rw [q, ea] at e; (injection e with e; subst e); rw [sa] at st; injection st
  refine ⟨⟨own_move (Z := fun b => b = D ∨ ∃ o, s.heap.get? b = some o ∧ tabb o = true) R M'.tab hi hv va l' ia z keep zh zl zc zs (fun j nj σ mv I' D' L' xs nm h1 h2 h3 h4 q => ?_), fun _ w => .inl w, fun b o e n st => keep b o (fun q => by rcases q with q | q; exact n (q ▸ w); exact zs b o e st q) e, lv, ⟨h', t', rfl⟩⟩, fun n y v => v.move keep (fun q => ?_) fun n c hc q => ?_⟩
  · rcases q with q | q
    · exact hd j nj σ mv I' D' L' xs nm h1 h2 h3 h4 q
    · obtain ⟨o, es, ep, eo, _, d⟩ := h4.mr.parts
      exact Tb _ o eo (tabb_d fun ps z => by rw [d] at z; injection z) q
  · obtain ⟨m, ns⟩ := R.locNs
    obtain ⟨o, eo, so⟩ := store_dict ns
    rcases q with q | q
    · exact nst eo so q
    · exact zl q
  · obtain ⟨_, v, hcell⟩ := R.celN n c hc
    obtain ⟨o, eo, so⟩ := store_cell hcell
    rcases q with q | q
    · exact nst eo so q
    · exact zc n c hc q
theorem at_unset {v j : Nat} {x : LV} (q : LLoc.at (ρ.set v none) j = some x) : j ≠ v ∧ ρ.at j = some x := by
  by_cases e : j = v
  · subst e
    unfold LLoc.at at q
    rw [List.getElem?_set, if_pos rfl] at q
    split at q <;> injection q
  · rw [LLoc.at_ne e] at q
    exact ⟨e, q⟩
theorem mach_aft (hT : HsT hs) (R : FrR X hs N₀ env k.vars ρ W s.heap) {v mv : Nat} {n nm : Str} {σ σ' : M} {xs : List Int} {I D L : Addr} (hn : k.vars[v]? = some n) (hv : ρ.at v = some (.mpu σ mv)) (va : VarAt env s.heap n (.ref I)) (M : Mch X hs env k.vars ρ s.heap I D L xs nm σ mv) (M' : Mr (X.at I D L) σ' s'.heap) (kp : Kp [D, L] s s') (hz : σ'.mem.length ≤ lim)
    (hb : backL ρ v mv σ' = some ρ') : Aft X hs N₀ env k.vars W s ρ' W s' := by
  refine bind_el hb fun ρ₁ hset1 hset2 => ?_
  obtain ⟨hlt1, rfl⟩ := setL_of hset1
  obtain ⟨hlt2, rfl⟩ := setL_of hset2
  have hvm : mv ≠ v := fun q => by have := M.own; rw [q, hv] at this; cases this
  obtain ⟨oD, es, ep, eD, _, dD⟩ := M.mr.parts
  have F0 := R.put v none hn (fun xs q => by rw [hv] at q; cases q) (fun _ q => nomatch q) (fun _ q => nomatch q)
  obtain ⟨A1, vm⟩ := kp_aft hT F0 M.nam (by rw [LLoc.at_ne hvm]; exact M.own) M.vL M.hD eD dD M.Dl kp M' hz fun j nj τ m I' D' L' xs' nm' hj hu vI M2 q => by
    obtain ⟨qj, hu⟩ := at_unset hu
    have e1 : s.heap.get? I' = some (instObj X.x.C D') := M2.mr.inst
    exact qj (R.mchD j v nj n τ σ m mv I' I D hj hn hu hv vI va (q ▸ e1) M.mr.inst)
  have eq : ((ρ.set v none).set mv (some (.own σ'.mem))).set v (some (.mpu { σ' with mem := [] } mv)) = (ρ.set mv (some (.own σ'.mem))).set v (some (.mpu { σ' with mem := [] } mv)) := by rw [List.set_comm none _ (Ne.symm hvm), List.set_set]
  have atv : LLoc.at ((ρ.set v none).set mv (some (.own σ'.mem))) v = none := by
    rw [LLoc.at_ne (Ne.symm hvm)]
    cases q : LLoc.at (ρ.set v none) v with
    | none => rfl
    | some _ => exact absurd rfl (at_unset q).1
  refine ⟨eq ▸ A1.fr.put v _ hn (fun xs q => by rw [atv] at q; injection q) (fun _ q => by (injection q with q; subst q); rfl) fun u e => ?_, A1.new, A1.evo, A1.live, A1.ks⟩
  (injection e with e; subst e)
  refine ⟨_, _, _, rfl, vm _ _ va, hvm, I, D, L, σ'.mem, nm, rfl, ⟨LLoc.at_self (by rw [List.length_set]; exact hlt1), M.nam, vm _ _ M.vL, M', M.hD, M.d0, M.l0, M.Dl⟩, fun j nj τ m J qj hj hu vJ e => ?_⟩
  obtain ⟨J', D', L', ys, nm', vJ', M2⟩ := A1.fr.rd.mach j nj τ m hj hu
  cases vJ.unique vJ'
  have e2 : s'.heap.get? J = some (instObj X.x.C D') := M2.mr.inst
  rw [e2] at e
  obtain rfl : D' = D := by injection e with e; injection e with _ e; injection e
  by_cases qm : j = mv
  · subst qm; rw [LLoc.at_self (by rw [List.length_set]; exact hlt1)] at hu; cases hu
  rw [LLoc.at_ne qm] at hu
  obtain ⟨_, hu⟩ := at_unset hu
  obtain ⟨J2, D2, L2, zs, nm2, vJ2, M3⟩ := R.rd.mach j nj τ m hj hu
  cases (vm _ _ vJ2).unique vJ
  have e3 : s.heap.get? J = some (instObj X.x.C D2) := M3.mr.inst
  have e4 : s'.heap.get? J = some (instObj X.x.C D2) := by
    obtain ⟨h', t', rfl, aw, _⟩ := kp
    refine aw _ _ e3 rfl fun q => ?_
    rcases List.mem_cons.mp q with q | q
    · rw [q] at e3; rw [show s.heap.get? D' = some oD from eD] at e3; (injection e3 with e3; subst e3); injection dD
    · obtain ⟨its, ⟨o, _, eo, _, _, d⟩, _⟩ := M.mr.mem
      have eo : s.heap.get? L = some o := eo
      rw [List.mem_singleton.mp q, eo] at e3; (injection e3 with e3; subst e3); injection d
  rw [e2] at e4
  obtain rfl : D' = D2 := by injection e4 with e; injection e with _ e; injection e
  exact qj (R.mchD j v nj n τ σ m mv J I D' hj hn hu hv vJ2 va e3 M.mr.inst)
theorem meth0 (OK : LOk X) {vars : List Str} (EL : EnvL env vars) (hd : A.depth + deep ≤ recursionLimit) {i m : Nat} {n : Str} {md : MethD} {bp ap p : Pos} (hn : vars[i]? = some n) (hmd : X.x.c.P[m]? = some md) (hl : ap.endLine = p.line) {I D L : Addr} {σ σ' : M} {r : V} (d0 : X.x.h₀.get? D = none) (l0 : X.x.h₀.get? L = none)
    (va : VarAt env s.heap n (.ref I)) (Mm : Mr (X.at I D L) σ s.heap) (hc : callM X.x.c deep m [] σ = some (r, σ')) {Q : Value → Shared → Prop} (h : ∀ y s', Mr (X.at I D L) σ' s'.heap → Kp [D, L] s s' → Q y s') : wpAny (model X.x.prog X.x.w) A (eval (.Call (.Attribute (.Name n bp) md.nm ap) [] [] p) env) Q E' s := by
  have O := OK.ok I D L d0 l0 Mm.apart
  show wpAny _ _ (eval (.Name n bp) env >>= fun ov => standAt ap.atName >>= fun _ => methodCall (.Name n bp) md.nm ap p env ov 0 (backTo p (starEach [] env)) []) _ _ _
  refine wpAny_bind (load_at EL hn va (wpAny_bind (wpAny_standAt ?_)))
  unfold methodCall calleeOf methodCallPos
  rw [show methodCallForm 0 (backTo p (starEach [] env)) [] = true from rfl]
  have q : (ap.endLine == p.line) = true := by rw [hl]; exact beq_self_eq_true _
  simp only [if_true, Bool.not_true, Bool.false_or, q]
  refine wpAny_bind (wpAny_holding (meth_of (x := X.at I D L) O Mm hmd (wpAny_bind (wpAny_pure ?_))))
  obtain ⟨fd, _, hk, _⟩ := (O.meth m md hmd).fd
  exact callWith_meth0 rfl (Mm.stays _ _ (O.X _ _ hk)) (wpAny_call ((sound_call O (small_at OK I D L) deep A hd).ok m [] _ r σ' hc s [] _ Mm .nil fun y s' M' _ kp => h y s' M' kp))
theorem mach_call (OK : LOk X) (EF : EnvF env k) {d : Nat} (ao : AOk A (d + deep)) (hT : HsT hs) (R : FrR X hs N₀ env k.vars ρ W s.heap) {v m : Nat} {n : Str} {md : MethD} {bp ap p : Pos} (hn : k.vars[v]? = some n) (hmd : X.x.c.P[m]? = some md) (hl : ap.endLine = p.line) (hs' : stepL X.x.c ρ v m = some ρ')
    {Q : Value → Shared → Prop} (h : ∀ y s', Aft X hs N₀ env k.vars W s ρ' W s' → Q y s') : wpAny (model X.x.prog X.x.w) A (eval (.Call (.Attribute (.Name n bp) md.nm ap) [] [] p) env) Q E' s := by
  obtain ⟨u, hv, hs'⟩ := bind_of hs'
  obtain ⟨⟨σ, mv⟩, hu, hs'⟩ := bind_of hs'
  obtain ⟨w, hw, hs'⟩ := bind_of hs'
  obtain ⟨xs, hxs, hs'⟩ := bind_of hs'
  obtain ⟨⟨r, σ'⟩, hc, hs'⟩ := bind_of hs'
  obtain ⟨hz, hb⟩ := cond_of hs'
  clear hs'
  cases LV.mpu?_of hu
  cases LV.own?_of hxs
  obtain ⟨I, D, L, xs', nm, va, M⟩ := R.rd.mach v n σ mv hn hv
  cases hw.symm.trans M.own
  exact meth0 OK EF.el (by have := ao.dp; omega) hn hmd hl M.d0 M.l0 va M.mr hc fun y s' M' kp => h y s' (mach_aft hT R hn hv va M M' kp (Nat.le_of_ble_eq_true hz) hb)
theorem ev_call {cf : Nat → List LV → Option LV} (OK : LOk X) (EF : EnvF env k) {d : Nat} (ao : AOk A (d + deep + 2)) (hcf : CallLOk X A cf) (hT : HsT hs) (R : FrR X hs N₀ env k.vars ρ W s.heap) {v m6 m7 m0 : Nat} {n : Str} {q1 q2 p : Pos} {x : PySem.Expr} {e : LE} {i : Int} (hn : k.vars[v]? = some n) (hg : env.kindOf "_law_event" = some .globalImplicit)
    (h6 : isMeth X.x.c m6 "irq" = true) (h7 : isMeth X.x.c m7 "nmi" = true) (h0 : isMeth X.x.c m0 "step" = true) (hpl : plainL x = true) (ht : trL X.F k e x = true) (he : evL cf e ρ = some (.int i)) (hs' : stepL X.x.c ρ v (cond (i == 6) m6 (cond (i == 7) m7 m0)) = some ρ')
    {Q : Value → Shared → Prop} (h : ∀ y s', Aft X hs N₀ env k.vars W s ρ' W s' → Q y s') : wpAny (model X.x.prog X.x.w) A (eval (.Call (.Name "_law_event" q1) [.Name n q2, x] [] p) env) Q E' s := by
  obtain ⟨fa, o, fdt, hmg, ho, hd, hcd, hB⟩ := OK.ev
  obtain ⟨F0, t, hbody, hB⟩ := ev_of hB
  obtain ⟨u, hv, hs'⟩ := bind_of hs'
  obtain ⟨⟨σ, mv⟩, hu, hs'⟩ := bind_of hs'
  obtain ⟨w, hw, hs'⟩ := bind_of hs'
  obtain ⟨xs, hxs, hs'⟩ := bind_of hs'
  obtain ⟨⟨r, σ'⟩, hc, hs'⟩ := bind_of hs'
  obtain ⟨hz, hb⟩ := cond_of hs'
  clear hs'
  cases LV.mpu?_of hu
  cases LV.own?_of hxs
  obtain ⟨I0, D0, L0, xs0, nm0, va0, M0⟩ := R.rd.mach v n σ mv hn hv
  refine wpAny_Call_NameR (load_global EF.el (OK.g.keeps R.rd.base) hg hmg (by decide) ?_)
  refine callWith_def hd (args_cons (load_at EF.el hn va0 (args_cons ((sound_L OK ao hcf e).1 k env ρ hs N₀ W _ _ ht he EF.el EF.ko R.len s _ _ R.rd fun y s₁ ry k₁ => args_nil ⟨k₁.grow _ _ (R.rd.base _ _ ho), wpAny_call ?_⟩) (plainL_star hpl env []))) (by rfl)) (by rfl)
  obtain ⟨ty, rfl⟩ := ry
  have R₁ := R.grow k₁.grow
  refine codeAny_call_def (binds := [("mpu", .ref I0), ("kind", .int i ty)]) (by have := ao.dp; omega) (R₁.rd.base _ _ ho) hd (OK.lim.keeps R₁.rd.base) (hcd.keeps R₁.rd.base) hbody (BindsTo.of_eq (bind_plain F0.args (by decide) rfl)) F0.nc (fun x hx => F0.loc _ ?_) (fun h₁ ns hk => ?_) F0.co F0.gen F0.kind
  · rcases List.mem_cons.mp hx with rfl | hx
    · exact .head _
    · rw [List.mem_singleton.mp hx]; exact .tail _ (.head _)
  have EL' : EnvL (callEnv fdt s₁.heap.objs.size fa) ["mpu", "kind"] := ⟨F0.kind, F0.glob, F0.blt, fun v hv => by
    rcases List.mem_cons.mp hv with rfl | hv
    · decide
    · rw [List.mem_singleton.mp hv]; decide⟩
  have KO' : KOk (evK fdt) (callEnv fdt s₁.heap.objs.size fa) := ⟨fun n h => h, fun n h => absurd rfl (F0.nc _ (mem_of_lookup h))⟩
  have hcf' : ∀ A', CallLOk X A' (fun _ _ => none) := fun A' f args v h => nomatch h
  have ao' : AOk (A.deeper (callEnv fdt s₁.heap.objs.size fa)) (d + deep + 1) := AOk.deeper (d := d + deep + 1) ao
  have VA : ∀ {h : Heap}, Grow h₁ h → VarAt (callEnv fdt s₁.heap.objs.size fa) h "mpu" (.ref I0) := fun g => .inl ⟨F0.loc _ (.head _), _, ns.keeps g, rfl⟩
  have RD : ∀ {h : Heap}, Grow h₁ h → Rd X hs N₀ (callEnv fdt s₁.heap.objs.size fa) ["mpu", "kind"] [none, some (.int i)] W h := fun {h} g => by
    have R₂ := (R₁.grow hk).grow g
    refine ⟨R₂.rd.base, R₂.rd.lists, fun j nj v hj hv => ?_, fun j nj σ mv hj hv => ?_, R₂.rd.tab⟩
    · match j, hj, hv with
      | 0, hj, hv => injection hv
      | 1, hj, hv => (injection hj with hj; subst hj); (injection hv with hv; subst hv); exact ⟨_, .inl ⟨F0.loc _ (.tail _ (.head _)), _, ns.keeps g, rfl⟩, ty, rfl⟩
      | _ + 2, hj, hv => injection hv
    · match j, hj, hv with
      | 0, hj, hv => injection hv
      | 1, hj, hv => cases hv
      | _ + 2, hj, hv => injection hv
  have TST : ∀ (z : Int) (tx : PySem.Expr), trL X.F (evK fdt) (.cmp .eq (.var 1) (.int z)) tx = true → ∀ (s₂ : Shared) (P : Bool → Shared → Prop) (E₂ : Value → Shared → Prop), Grow h₁ s₂.heap → (∀ s₃, Kg s₂ s₃ → P (i == z) s₃) →
      wpAny (model X.x.prog X.x.w) (A.deeper (callEnv fdt s₁.heap.objs.size fa)) (isTrue tx (callEnv fdt s₁.heap.objs.size fa) (eval tx (callEnv fdt s₁.heap.objs.size fa))) P E₂ s₂ := fun z tx htx s₂ P E₂ g hP =>
    (sound_L OK ao' (hcf' _) (.cmp .eq (.var 1) (.int z))).2 (evK fdt) _ [none, some (.int i)] hs N₀ W tx (.bool (i == z)) (i == z) htx rfl rfl EL' KO' rfl s₂ P E₂ (RD g) hP
  have CALL : ∀ (nm : Str) (m : Nat) (st : Stmt) (s₂ : Shared) (P : Flow → Shared → Prop) (E₂ : Value → Shared → Prop), callB nm st = true → isMeth X.x.c m nm = true → callM X.x.c deep m [] { σ with mem := xs } = some (r, σ') → Kg { s₁ with heap := h₁, toks := s₁.toks + [(("mpu" : Str), Value.ref I0), ("kind", .int i ty)].length } s₂ → (∀ s', Aft X hs N₀ env k.vars W s ρ' W s' → P .next s') →
      wpAny (model X.x.prog X.x.w) (A.deeper (callEnv fdt s₁.heap.objs.size fa)) (execs [st] (callEnv fdt s₁.heap.objs.size fa)) P E₂ s₂ := fun nm m st s₂ P E₂ hst hme hcm k₂ hP => by
    obtain ⟨bp, ap, p, q, rfl, hl⟩ := callB_of hst
    obtain ⟨md, hmd, rfl⟩ := isMeth_of hme
    have k₁₂ : Kg s s₂ := k₁.trans (Kg.trans ⟨h₁, _, rfl, hk⟩ k₂)
    have R₂ := R.grow k₁₂.grow
    obtain ⟨I, D, L, xs', nm, va, M⟩ := R₂.rd.mach v n σ mv hn hv
    cases hw.symm.trans M.own
    cases (va0.grow k₁₂.grow).unique va
    have hi : interactive (callEnv fdt s₁.heap.objs.size fa) = false := by show (fdt.scope.kind == .module && _) = false; rw [F0.kind]; rfl
    exact wpAny_execs_cons (wpAny_Expr_any (meth0 OK EL' (by have := ao'.dp; omega) (i := 0) rfl hmd hl M.d0 M.l0 (VA k₂.grow) M.mr hcm fun y s' M' kp => wpAny_execs_nil (hP s' ((Aft.of_kg R k₁₂).trans (mach_aft hT R₂ hn hv va M M' kp (Nat.le_of_ble_eq_true hz) hb)))) hi)
  obtain ⟨t1, a1, b1, p1, rfl, ht1, ha1, hB⟩ := kindB_of hB
  obtain ⟨t2, a2, b2, p2, rfl, ht2, ha2, hb2⟩ := kindB_of hB
  refine wpAny_execs_cons (wpAny_If (TST 6 t1 ht1 _ _ _ (fun _ _ e => e) fun s₃ k₃ => ?_))
  cases e6 : i == 6 with
  | true =>
    rw [e6] at hc
    exact CALL "irq" m6 a1 s₃ _ _ ha1 h6 hc k₃ fun s' a => wpAny_execs_nil (h _ s' a)
  | false =>
    rw [e6] at hc
    refine wpAny_execs_cons (wpAny_If (TST 7 t2 ht2 _ _ _ k₃.grow fun s₄ k₄ => ?_))
    cases e7 : i == 7 with
    | true =>
      rw [e7] at hc
      exact CALL "nmi" m7 a2 s₄ _ _ ha2 h7 hc (k₃.trans k₄) fun s' a => wpAny_execs_nil (wpAny_execs_nil (h _ s' a))
    | false =>
      rw [e7] at hc
      exact CALL "step" m0 b2 s₄ _ _ hb2 h0 hc (k₃.trans k₄) fun s' a => wpAny_execs_nil (wpAny_execs_nil (h _ s' a))
end
end Mine

end
section
open PySem PySem.W PyProof.Rows
set_option maxRecDepth 100000
set_option maxHeartbeats 1000000
set_option linter.unusedSimpArgs false
set_option linter.unusedVariables false
namespace Mine
section
variable {X : LX} {hs : Addr → Option Obj} {N₀ : Addr → Prop} {env : Env} {k : LC} {ρ ρ' ρ'' : LLoc} {W W' W'' : Addr → Prop} {s s' s'' : Shared} {A : Around} {E' : Value → Shared → Prop} {h : Heap} {cf : Nat → List LV → Option LV}
theorem weight_tc (C : Addr) (rest : List Value) (kw : List (Str × Value)) : (Code.builtin "type.__call__" ⟨.ref C :: rest, kw⟩).weight ≤ 1 := by
  have g : (Code.builtin "type.__call__" ⟨.ref C :: rest, kw⟩).weight = 1 := by
    first | rfl | kernel_rfl
  rw [g]; exact Nat.le_refl _
theorem toV_rp {x : Cx} {N : Addr → Prop} {v : LV} {y : Value} {p : V} (r : RV N h v y) (hp : toV v = some p) {h' : Heap} : Rp x h' p y := by
  cases v with
  | «at» a => cases a <;> cases hp <;> exact r
  | _ => injection hp
theorem mk_unset {x : Cx} {hh : Heap} {xs : List Int} {its : Array Value} (hb : ∀ b o, x.h₀.get? b = some o → hh.get? b = some o) (hI : x.I = hh.objs.size + 1) (hD : x.D = hh.objs.size) (l : PlainL hh x.L its) (ia : IntsAre its.toList xs) (z : xs.length ≤ lim) (tb : TabInv hh) :
    Mr x { unsetM with mem := xs } ((hh.push emptyDict).push (instObj x.C hh.objs.size)) := by
  refine ⟨fun b o e => Heap.get?_push_of_some _ (Heap.get?_push_of_some _ (hb b o e)), ?_, ⟨fun _ => none, ?_, fun f => ?_, fun n _ => rfl⟩, ⟨its, (l.keeps fun _ _ e => Heap.get?_push_of_some _ (Heap.get?_push_of_some _ e)), ia⟩, Nat.lt_of_le_of_lt z (by decide), tb.keep fun _ _ _ e _ => Heap.get?_push_of_some _ (Heap.get?_push_of_some _ e)⟩
  · rw [hI, hD]
    have : (hh.push emptyDict).objs.size = hh.objs.size + 1 := Heap.size_push ..
    rw [← this]
    exact Heap.get?_push_size _ rfl
  · rw [hD]
    refine Heap.Ns1.of_empty ?_
    have n0 : (hh.push emptyDict).Ns hh.objs.size (fun _ => none) := Heap.Ns.new hh (.type "dict")
    exact n0.keeps fun _ _ e => Heap.get?_push_of_some _ e
  · cases f <;> rfl
theorem mk_mach (OK : LOk X) (EF : EnvF env k) {d : Nat} (ao : AOk A (d + deep + 2)) (hcf : CallLOk X A cf) (hT : HsT hs) (R : FrR X hs N₀ env k.vars ρ W s.heap) {v mv : Nat} {e : LE} {pcv : LV} {n nm : Str} {ex : PySem.Expr} {p1 p2 p3 p4 p5 : Pos} {kp1 kp2 : Pos} (hn : k.vars[v]? = some n) (hnm : k.vars[mv]? = some nm) (hg : env.kindOf "MPU" = some .globalImplicit)
    (ht : trL X.F k e ex = true) (he : evL cf e ρ = some pcv) (hs' : mkL X.x.c X.im ρ v mv pcv = some ρ') {Q : Flow → Shared → Prop} (hq : ∀ s', Aft X hs N₀ env k.vars W s ρ' W s' → Q .next s') :
    wpAny (model X.x.prog X.x.w) A (exec (.Assign [.Name n p1] (.Call (.Name "MPU" p2) [] [⟨some "memory", .Name nm p3, kp1⟩, ⟨some "pc", ex, kp2⟩] p4) p5) env) Q E' s := by
  obtain ⟨w, hw, hs'⟩ := bind_of hs'
  obtain ⟨xs, hxs, hs'⟩ := bind_of hs'
  obtain ⟨pv, hpv, hs'⟩ := bind_of hs'
  obtain ⟨⟨r, σ'⟩, hc, hs'⟩ := bind_of hs'
  obtain ⟨hz, hb⟩ := cond_of hs'
  clear hs'
  cases LV.own?_of hxs
  refine and_el hz fun hz hle => ?_
  refine and_el hz fun hz hne => ?_
  refine and_el hz fun hr hfr => ?_
  have hzz : σ'.mem.length ≤ lim := Nat.le_of_ble_eq_true hle
  have hvm : v ≠ mv := fun q => by rw [q, Nat.beq_refl] at hne; injection hne
  obtain rfl : r = .none := by cases r <;> first | rfl | injection hr
  refine bind_el hb fun ρ₁ hset1 hset2 => ?_
  obtain ⟨hlt1, rfl⟩ := setL_of hset1
  have KI : X.x.K.In s.heap := fun b o e => R.rd.base _ _ ((OK.ok 0 X.x.h₀.objs.size (X.x.h₀.objs.size + 1) fresh_size (by
    cases q : X.x.h₀.get? (X.x.h₀.objs.size + 1) with
    | none => rfl
    | some o => exact absurd (Heap.lt_size q) (Nat.not_lt.mpr (Nat.le_succ _))) (Nat.ne_of_lt (Nat.lt_succ_self _))).X b o e)
  refine wpAny_Assign_Name ?_
  show wpAny _ _ (do callWith p4 (← eval (.Name "MPU" p2) env) [] (backTo p4 (starEach [] env)) (backToKw p4 (keywordEach [⟨some "memory", .Name nm p3, kp1⟩, ⟨some "pc", ex, kp2⟩] env))) _ _ s
  refine wpAny_bind (load_global EF.el (OK.g.keeps R.rd.base) hg OK.mpu (by decide) ?_)
  refine callWith_KW0 KI OK.keep rfl (kwAll_cons (load_own R.rd EF.el hnm hw fun L its vL wL lL iL zL => kwAll_cons ((sound_L OK ao hcf e).1 k env ρ hs N₀ W ex pcv ht he EF.el EF.ko R.len s _ _ R.rd fun py s₁ rp k₁ => kwAll_nil ?_)))
  refine ⟨fun b o e => k₁.grow _ _ (KI b o e), wpAny_call ?_⟩
  obtain ⟨hh, gens, dr, tk, os⟩ := s₁
  have KI₁ : X.x.K.In hh := fun b o e => k₁.grow _ _ (KI b o e)
  have R₁ := R.grow k₁.grow
  have lL₁ : PlainL hh L its := lL.keeps k₁.grow
  refine make_core (makes_of KI₁ OK.makes) (looks_findIn KI₁ OK.init) (fun self => bind_fn KI₁ self OK.initT) (.inl rfl) ?_
  have new : ∀ {f : Addr → Option Obj}, (∀ b o, f b = some o → hh.get? b = some o) → f hh.objs.size = none := fun {f} hf => by
    cases q : f hh.objs.size with
    | none => rfl
    | some o => exact absurd (Heap.lt_size (hf _ _ q)) (Nat.lt_irrefl _)
  have hL0 : X.x.h₀.get? L = none := by
    cases q : X.x.h₀.get? L with
    | none => rfl
    | some o => have := R.wnew L wL; rw [R.up _ _ q] at this; injection this
  have Dlt : ∀ {b : Addr} {o : Obj}, hh.get? b = some o → hh.objs.size ≠ b := fun e q => by rw [← q] at e; exact absurd (Heap.lt_size e) (Nat.lt_irrefl _)
  have nDL : hh.objs.size ≠ L := by obtain ⟨o, _, e, _⟩ := lL₁; exact Dlt e
  have O := OK.ok (hh.objs.size + 1) hh.objs.size L (new R₁.rd.base) hL0 nDL
  have M0 : Mr (X.at (hh.objs.size + 1) hh.objs.size L) { unsetM with mem := xs } ((hh.push emptyDict).push (instObj X.x.C hh.objs.size)) := mk_unset (x := X.at (hh.objs.size + 1) hh.objs.size L) R₁.rd.base rfl rfl lL₁ iL zL R₁.rd.tab
  have hdep : (A.under (.builtin "type.__call__" ⟨.ref X.x.C :: [], [("memory", .ref L), ("pc", py)]⟩)).depth + deep ≤ recursionLimit := by
    show A.depth + _ + deep ≤ _
    have := weight_tc X.x.C [] [("memory", .ref L), ("pc", py)]
    have := ao.dp
    omega
  have hpl : ∀ (fd : FuncData) (md : MethD) (b : List Stmt), X.x.c.P[X.im]? = some md → X.x.K.lookup (X.x.fnA X.im) = some ⟨.type "function", none, .func fd, #[]⟩ → fd.body = .stmts b → PlainM (X.at (hh.objs.size + 1) hh.objs.size L) md fd b := fun fd md b hm hk hb => by
    obtain ⟨md', _, _, hm', hn', _⟩ := call_parts hc
    have hm' : X.x.c.P[X.im]? = some md' := hm'
    rw [hm] at hm'; injection hm' with hm'; subst hm'
    obtain ⟨fd', b', hk', hb', pl, _⟩ := (O.meth _ md hm).fd
    have hk' : X.x.K.lookup (X.x.fnA X.im) = some ⟨.type "function", none, .func fd', #[]⟩ := hk'
    rw [hk] at hk'; injection hk' with hk'; injection hk' with _ _ hk'; injection hk' with hk'; subst hk'
    rw [hb] at hb'; injection hb' with hb'; subst hb'
    rcases pl with pl | ⟨_, _, _, _, _, _, _, W⟩
    · exact pl
    · have this := W.np; rw [← hn'] at this; have this : 3 = 2 := this; exact absurd this (by decide)
  refine call_args (x := X.at (hh.objs.size + 1) hh.objs.size L) (d := 11) O (small_at OK _ _ _) hdep (fun A' h' => sound_call O (small_at OK _ _ _) 11 A' h') (vals := [.ref L, py]) hc (fun fd md hm hk hlen => OK.initB _ fd md (.ref (hh.objs.size + 1)) (.ref L) py hm hk (fun b o e => Heap.get?_push_of_some _ (Heap.get?_push_of_some _ (KI₁ b o e)))) M0 (.cons rfl (.cons (toV_rp rp hpv) .nil)) hpl fun y s' M' ry kp => ?_
  obtain rfl : y = .none := ry
  refine ⟨rfl, ?_⟩
  -- the frame behind __init__
  have g2 : Kg s ⟨(hh.push emptyDict).push (instObj X.x.C hh.objs.size), gens, dr, tk, os⟩ := k₁.trans ((Kg.push' (s := ⟨hh, gens, dr, tk, os⟩)).trans .push')
  have R₂ := R.grow g2.grow
  have hDl : hh.objs.size ≠ env.locals := by obtain ⟨m, o, es, ep, e, _⟩ := R₁.locNs; exact Dlt e
  have eD : ((hh.push emptyDict).push (instObj X.x.C hh.objs.size)).get? hh.objs.size = some emptyDict := Heap.get?_push_of_some _ (Heap.get?_push_size _ rfl)
  -- the machines of before have other dicts
  have far : ∀ j nj σ m I', k.vars[j]? = some nj → ρ.at j = some (.mpu σ m) → VarAt env ((hh.push emptyDict).push (instObj X.x.C hh.objs.size)) nj (.ref I') → ∃ D', hh.get? I' = some (instObj X.x.C D') ∧ D' ≠ hh.objs.size ∧ I' ≠ hh.objs.size ∧ I' ≠ L := fun j nj σ m I' hj hu vI => by
    obtain ⟨J, D', L', ys, nm', vJ, M⟩ := R₁.rd.mach j nj σ m hj hu
    cases vI.unique (vJ.grow fun _ _ e => Heap.get?_push_of_some _ (Heap.get?_push_of_some _ e))
    obtain ⟨o, _, _, e, _⟩ := M.mr.parts
    have e : hh.get? D' = some o := e
    have eI : hh.get? I' = some (instObj X.x.C D') := M.mr.inst
    refine ⟨D', eI, Ne.symm (Dlt e), Ne.symm (Dlt eI), fun q => ?_⟩
    obtain ⟨o, _, eo, _, _, d⟩ := lL₁
    rw [q, eo] at eI; cases eI; cases d
  obtain ⟨A1, vm⟩ := kp_aft (I := hh.objs.size + 1) hT R₂ hnm hw (vL.grow g2.grow) (new R₁.hb) eD rfl hDl kp M' hzz fun j nj σ m I' D' L' ys nm' hj hu vI M q => by
    obtain ⟨D2, e2, n2, _⟩ := far j nj σ m I' hj hu vI
    have e3 : ((hh.push emptyDict).push (instObj X.x.C hh.objs.size)).get? I' = some (instObj X.x.C D') := M.mr.inst
    rw [Heap.get?_push_of_some _ (Heap.get?_push_of_some _ e2)] at e3
    injection e3 with e3; injection e3 with _ e3; injection e3 with e3
    exact n2 (e3.trans q)
  have hset2' := hset2
  obtain ⟨hlt2, rfl⟩ := setL_of hset2
  have frv : free (ρ.set mv (some (.own σ'.mem))) v = true := by
    refine List.all_eq_true.mpr fun o ho => ?_
    rcases List.mem_or_eq_of_mem_set ho with h | h
    · exact List.all_eq_true.mp hfr o h
    · rw [h]; rfl
  refine stored_aft EF A1.fr hn frv hset2' trivial (fun _ q => absurd q Bool.false_ne_true) (fun σ₀ mv₀ q => ?_) fun s'' A2 => hq s'' ((Aft.of_kg R g2).trans (A1.trans A2))
  cases q
  refine ⟨Ne.symm hvm, hh.objs.size + 1, hh.objs.size, L, σ'.mem, nm, rfl, ⟨LLoc.at_self hlt1, hnm, vm _ _ (vL.grow g2.grow), M', new R₁.hb, new R₁.rd.base, hL0, hDl⟩, fun j nj τ m J qj hj hu vJ e => ?_⟩
  by_cases qm : j = mv
  · subst qm; rw [LLoc.at_self hlt1] at hu; cases hu
  rw [LLoc.at_ne qm] at hu
  obtain ⟨J2, D2, L2, zs, nm2, vJ2, _⟩ := R₂.rd.mach j nj τ m hj hu
  cases (vm _ _ vJ2).unique vJ
  obtain ⟨D', e2, n2, n3, n4⟩ := far j nj τ m J hj hu vJ2
  obtain ⟨h', t', rfl, aw, _⟩ := kp
  have e3 := aw J _ (Heap.get?_push_of_some (instObj X.x.C hh.objs.size) (Heap.get?_push_of_some emptyDict e2)) rfl (by simp only [List.mem_cons, List.not_mem_nil, or_false, not_or]; exact ⟨n3, n4⟩)
  rw [e] at e3
  injection e3 with e3; injection e3 with _ e3; injection e3 with e3
  exact n2 e3.symm
end
end Mine

end
section
open PySem PySem.W PyProof.Rows
set_option maxRecDepth 100000
set_option maxHeartbeats 1000000
set_option linter.unusedSimpArgs false
set_option linter.unusedVariables false
namespace Mine
section
variable {X : LX} {hs : Addr → Option Obj} {N₀ : Addr → Prop} {env : Env} {k : LC} {ρ ρ' : LLoc} {W : Addr → Prop} {s : Shared} {A : Around} {E' : Value → Shared → Prop}
theorem attr_store (OK : LOk X) (hT : HsT hs) (R : FrR X hs N₀ env k.vars ρ W s.heap) {v : Nat} {n : Str} {f : Fld} {m : Int} {t : Tok} (hn : k.vars[v]? = some n) (hs' : setA ρ v f m = some ρ') : ∃ I, VarAt env s.heap n (.ref I) ∧ ∀ (Q : Unit → Shared → Prop) (E' : Value → Shared → Prop), (∀ s', Aft X hs N₀ env k.vars W s ρ' W s' → Q () s') → wpAny (model X.x.prog X.x.w) A (setAttr (.ref I) f.nm (.int m t)) Q E' s := by
  obtain ⟨u, hv, h1⟩ := bind_of hs'
  obtain ⟨⟨σ, mv⟩, hu, h2⟩ := bind_of h1
  refine bind_el h2 fun w hw h3 => ?_
  refine bind_el h3 fun xs hxs h4 => ?_
  obtain ⟨σ', hset, h5⟩ := bind_of h4
  obtain ⟨hz, hb⟩ := cond_of h5
  clear hs' h1 h2 h3 h4 h5
  cases LV.mpu?_of hu
  cases LV.own?_of hxs
  obtain ⟨I, D, L, xs', nm, va, M⟩ := R.rd.mach v n σ mv hn hv
  cases hw.symm.trans M.own
  have O := OK.ok I D L M.d0 M.l0 M.mr.apart
  exact ⟨I, va, fun _ _ h => set_fld (x := X.at I D L) O M.mr hset (fun q => nomatch q) (fun _ => ⟨t, rfl⟩) fun s' M' kp _ => h s' (mach_aft hT R hn hv va M M' kp (Nat.le_of_ble_eq_true hz) hb)⟩
theorem mv_store (EF : EnvF env k) (R : FrR X hs N₀ env k.vars ρ W s.heap) {v w : Nat} {n nw : Str} (hn : k.vars[v]? = some n) (hw : k.vars[w]? = some nw) (hs' : mvL ρ v w = some ρ') {Q : Unit → Shared → Prop}
    (h : ∀ s', Aft X hs N₀ env k.vars W s ρ' W s' → Q () s') : ∃ I, VarAt env s.heap nw (.ref I) ∧ wpAny (model X.x.prog X.x.w) A (storeName env n (.ref I)) Q E' s := by
  obtain ⟨u, hv, h1⟩ := bind_of hs'
  obtain ⟨⟨σ, mv⟩, hu, h2⟩ := bind_of h1
  obtain ⟨hc, hset⟩ := cond_of h2
  clear hs' h1 h2
  refine and_el hc fun hc hf => ?_
  refine and_el hc fun hvw hmv => ?_
  have hvw : v ≠ w := fun q => by subst q; rw [Nat.beq_refl] at hvw; injection hvw
  have hmv : mv ≠ v := fun q => by subst q; rw [Nat.beq_refl] at hmv; injection hmv
  cases LV.mpu?_of hu
  obtain ⟨I, D, L, xs, nm, va, M⟩ := R.rd.mach w nw σ mv hw hv
  have F0 := R.put w none hw (fun xs q => by rw [hv] at q; cases q) (fun _ q => nomatch q) (fun _ q => nomatch q)
  have A0 : Aft X hs N₀ env k.vars W s (ρ.set w none) W s := ⟨F0, fun _ w => .inl w, fun b o e _ _ => e, fun b o e => ⟨o, e, .same⟩, ⟨s.heap, s.toks, rfl⟩⟩
  have mw : mv ≠ w := fun q => by have := M.own; rw [q, hv] at this; cases this
  refine ⟨I, va, stored_aft EF F0 hn hf hset trivial (fun _ q => absurd q Bool.false_ne_true) (fun σ' mv' q => ?_) fun s' a => h s' (A0.trans a)⟩
  cases q
  refine ⟨hmv, I, D, L, xs, nm, rfl, ⟨by rw [LLoc.at_ne mw]; exact M.own, M.nam, M.vL, M.mr, M.hD, M.d0, M.l0, M.Dl⟩, fun j nj τ m J qj hj hu2 vJ e => ?_⟩
  obtain ⟨qw, hu2⟩ := at_unset hu2
  exact qw (R.mchD j w nj nw τ σ m mv J I D hj hw hu2 hv vJ va e M.mr.inst)
end
end Mine

end
section
open PySem PySem.W PyProof.Rows
set_option maxRecDepth 100000
set_option maxHeartbeats 1000000
set_option linter.unusedSimpArgs false
set_option linter.unusedVariables false
set_option linter.unusedSectionVars false
namespace Mine
noncomputable def FlL (N₀ W' : Addr → Prop) (h : Heap) : LFl → Flow → Prop
  | .next, f => f = .next
  | .brk, f => f = .brk
  | .ret v, f => ∃ y, f = .ret y ∧ RV N₀ h v y
section
variable (X : LX) (A : Around) (cf : Nat → List LV → Option LV)
noncomputable def GoodSt (st : LS) : Prop := ∀ (k : LC) (env : Env) (ρ : LLoc) (hs : Addr → Option Obj) (N₀ W : Addr → Prop) (t : Stmt) (fl : LFl) (ρ' : LLoc), trLS X.x.c X.F k st t = true → exL X.x.c X.im X.fuel cf st ρ = some (fl, ρ') → EnvF env k → HsT hs →
  ∀ (s : Shared) (Q : Flow → Shared → Prop) (E' : Value → Shared → Prop), FrR X hs N₀ env k.vars ρ W s.heap → (∀ f W' s', Aft X hs N₀ env k.vars W s ρ' W' s' → FlL N₀ W' s'.heap fl f → Q f s') → wpAny (model X.x.prog X.x.w) A (exec t env) Q E' s
noncomputable def GoodSts (st : LSs) : Prop := ∀ (k : LC) (env : Env) (ρ : LLoc) (hs : Addr → Option Obj) (N₀ W : Addr → Prop) (t : List Stmt) (fl : LFl) (ρ' : LLoc), trLSs X.x.c X.F k st t = true → exLs X.x.c X.im X.fuel cf st ρ = some (fl, ρ') → EnvF env k → HsT hs →
  ∀ (s : Shared) (Q : Flow → Shared → Prop) (E' : Value → Shared → Prop), FrR X hs N₀ env k.vars ρ W s.heap → (∀ f W' s', Aft X hs N₀ env k.vars W s ρ' W' s' → FlL N₀ W' s'.heap fl f → Q f s') → wpAny (model X.x.prog X.x.w) A (execs t env) Q E' s
end
section
variable {X : LX} {A : Around} {cf : Nat → List LV → Option LV} (OK : LOk X) {d : Nat} (ao : AOk A (d + deep + 2)) (hcf : CallLOk X A cf)
theorem notComp_swaps {e : PySem.Expr} (h : notComp e = true) (t : Option PySem.Expr) (n : Nat) (env : Env) : swapsWith e t n env = pure false := by
  cases e <;> first | rfl | injection h
include OK ao hcf
theorem s_asg (v : Nat) (e : LE) : GoodSt X A cf (.asg v e) := by
  intro k env ρ hs N₀ W t fl ρ' ht he EF hT s Q E' R h
  refine inv_trLS_asg ht fun _ _ _ _ hx₀ ht => ?_
  subst hx₀
  refine and_el ht fun ht hx => ?_
  refine and_el ht fun ht hst => ?_
  refine and_el ht fun hv hc => ?_
  refine bind_el he fun x hev he => ?_
  obtain ⟨ρ₁, hp, e'⟩ := map_of he
  cases e'
  refine wpAny_Assign_Name ((sound_L OK ao hcf e).1 k env ρ hs N₀ W _ x hx hev EF.el EF.ko R.len s _ _ R.rd fun y s₁ r k₁ => ?_) (notComp_swaps hc _ _ _)
  exact store_val EF (R.grow k₁.grow) (isVarL_of hv) hp (r.unfl hst) fun s' a => h _ _ s' ((Aft.of_kg R k₁).trans a) rfl
theorem s_newl (v : Nat) (e : LE) : GoodSt X A cf (.newl v e) := by
  intro k env ρ hs N₀ W t fl ρ' ht he EF hT s Q E' R h
  refine inv_trLS_newl ht fun _ _ _ _ hx₀ ht => ?_
  subst hx₀
  refine and_el ht fun ht hx => ?_
  refine and_el ht fun ht hfr => ?_
  refine and_el ht fun hv hc => ?_
  refine bind_el he fun x hev he => ?_
  refine bind_el he fun xs hxs he => ?_
  obtain ⟨hf, he⟩ := cond_of he
  obtain ⟨ρ₁, hp, e'⟩ := map_of he
  cases e'
  cases LV.ints?_of hxs
  exact wpAny_Assign_Name (sound_F OK ao hcf e hfr k env ρ hs N₀ W _ _ hx hev EF.el EF.ko R.len s _ _ R.rd fun y s₁ r k₁ nw => store_own EF R k₁ (isVarL_of hv) hf hp r nw fun W' s' a => h _ W' s' a rfl) (notComp_swaps hc _ _ _)
omit OK ao hcf in
theorem putSub_of {ρ ρ' : LLoc} {v : Nat} {j x : Int} (h : putSub ρ v j x = some ρ') : ∃ xs ys, ρ.at v = some (.own xs) ∧ putAt xs j x = some ys ∧ setL ρ v (.own ys) = some ρ' := by
  refine bind_el h fun u hu h => ?_
  refine bind_el h fun xs hxs h => ?_
  refine bind_el h fun ys hy h3 => ?_
  cases LV.own?_of hxs
  exact ⟨xs, ys, hu, hy, h3⟩
omit OK ao hcf in
theorem sub_store {k : LC} {env : Env} {ρ ρ' : LLoc} {hs : Addr → Option Obj} {N₀ W : Addr → Prop} {s : Shared} {E' : Value → Shared → Prop} (EF : EnvF env k) (R : FrR X hs N₀ env k.vars ρ W s.heap) {v : Nat} {n : Str} {a : Addr} {j x : Int} {t u : Tok} (hv : k.vars[v]? = some n) (va : VarAt env s.heap n (.ref a))
    (hp : putSub ρ v j x = some ρ') {Q : Unit → Shared → Prop} (h : ∀ s', Aft X hs N₀ env k.vars W s ρ' W s' → Q () s') : wpAny (model X.x.prog X.x.w) A (setItem (.ref a) (.int j t) (.int x u)) Q E' s := by
  obtain ⟨xs, ys, hx, hy, hset⟩ := putSub_of hp
  obtain ⟨q, e⟩ := ite_of hy
  (injection e with e; subst e)
  obtain ⟨y, vb, a', its, e, w, l, i0, z0⟩ := R.rd.var v n _ hv hx
  have := va.unique vb
  rw [e] at this; (injection this with this; subst this)
  have hz := ints_len i0
  have h63 := lim_63 z0
  refine set_plainL l q.1 (by omega) (by rw [hz]; omega) fun h' l' sb => ?_
  refine h _ (own_upd (t' := s.toks) R EF hv hx va l' ?_ (by rw [List.length_set]; exact z0) sb hset)
  rw [Array.toList_setIfInBounds]; exact ints_set i0 _ _ _
theorem s_sub (v : Nat) (i e : LE) : GoodSt X A cf (.sub v i e) := by
  intro k env ρ hs N₀ W t fl ρ' ht he EF hT s Q E' R h
  refine inv_trLS_sub ht fun _ _ _ _ _ _ hx₀ ht => ?_
  subst hx₀
  refine and_el ht fun ht hx => ?_
  refine and_el ht fun ht hi => ?_
  refine and_el ht fun ht hc => ?_
  refine and_el ht fun hv hp => ?_
  refine bind_el he fun u hev he => ?_
  refine bind_el he fun x hu he => ?_
  refine bind_el he fun w hj he => ?_
  refine bind_el he fun j hw he => ?_
  obtain ⟨ρ₁, hps, e'⟩ := map_of he
  cases e'
  cases LV.int?_of hu
  cases LV.int?_of hw
  obtain ⟨xs, _, hown, _⟩ := putSub_of hps
  refine wpAny_Assign_Subscript ((sound_L OK ao hcf e).1 k env ρ hs N₀ W _ _ hx hev EF.el EF.ko R.len s _ _ R.rd fun y s₁ r k₁ => load_own (R.grow k₁.grow).rd EF.el (isVarL_of hv) hown fun a its va wa l ia z =>
    (sound_L OK ao hcf i).1 k env ρ hs N₀ W _ _ hi hj EF.el EF.ko R.len s₁ _ _ (R.grow k₁.grow).rd fun yi s₂ ri k₂ => ?_) (notComp_swaps hc _ _ _)
  obtain ⟨t1, rfl⟩ := r
  obtain ⟨t2, rfl⟩ := ri
  exact sub_store EF (R.grow (k₁.trans k₂).grow) (isVarL_of hv) (va.grow k₂.grow) hps fun s' a => h _ _ s' ((Aft.of_kg R (k₁.trans k₂)).trans a) rfl
omit hcf in
theorem s_step (v m : Nat) : GoodSt X A cf (.step v m) := by
  intro k env ρ hs N₀ W t fl ρ' ht he EF hT s Q E' R h
  refine inv_trLS_step ht fun _ _ _ _ _ _ hx₀ ht => ?_
  subst hx₀
  refine and_el ht fun ht hl => ?_
  refine and_el ht fun hv hm => ?_
  obtain ⟨md, hmd, rfl⟩ := isMeth_of hm
  obtain ⟨ρ₁, hp, e'⟩ := map_of he
  cases e'
  have hi : interactive env = false := by show (env.scope.kind == .module && _) = false; rw [EF.el.kind]; rfl
  exact wpAny_Expr_any (mach_call (d := d + 2) OK EF (by have := ao; rwa [show d + deep + 2 = d + 2 + deep by omega] at this) hT R (isVarL_of hv) hmd (beq_iff_eq.mp hl) hp fun y s' a => h _ _ s' a rfl) hi
theorem s_ev (v m6 m7 m0 : Nat) (e : LE) : GoodSt X A cf (.ev v e m6 m7 m0) := by
  intro k env ρ hs N₀ W t fl ρ' ht he EF hT s Q E' R h
  refine inv_trLS_ev ht fun _ _ _ _ _ _ _ hx₀ ht => ?_
  subst hx₀
  refine and_el ht fun ht hx => ?_
  refine and_el ht fun ht hp => ?_
  refine and_el ht fun ht h0 => ?_
  refine and_el ht fun ht h7 => ?_
  refine and_el ht fun ht h6 => ?_
  refine and_el ht fun ht hv => ?_
  refine and_el ht fun hn hg => ?_
  cases beq_iff_eq.mp hn
  refine bind_el he fun u hu he => ?_
  refine bind_el he fun i hi he => ?_
  obtain ⟨ρ₁, hst, e'⟩ := map_of he
  cases e'
  cases LV.int?_of hi
  have hin : interactive env = false := by show (env.scope.kind == .module && _) = false; rw [EF.el.kind]; rfl
  exact wpAny_Expr_any (ev_call OK EF ao hcf hT R (isVarL_of hv) (EF.ko.g _ (isGlob_of hg)) h6 h7 h0 hp hx hu hst fun y s' a => h _ _ s' a rfl) hin
theorem s_mv (v w : Nat) : GoodSt X A cf (.mv v w) := by
  intro k env ρ hs N₀ W t fl ρ' ht he EF hT s Q E' R h
  refine inv_trLS_mv ht fun _ _ _ _ _ hx₀ ht => ?_
  subst hx₀
  refine and_el ht fun hv hw => ?_
  obtain ⟨ρ₁, hp, e'⟩ := map_of he
  cases e'
  obtain ⟨I, va, w0⟩ := mv_store (A := A) (E' := E') (Q := fun _ s' => Q .next s') EF R (isVarL_of hv) (isVarL_of hw) hp fun s' a => h .next W s' a rfl
  exact wpAny_Assign_Name (load_at EF.el (isVarL_of hw) va w0) (by rfl)
theorem s_setAt (v : Nat) (f : Fld) (e : LE) : GoodSt X A cf (.setAt v f e) := by
  intro k env ρ hs N₀ W t fl ρ' ht he EF hT s Q E' R h
  refine inv_trLS_setAt ht fun _ _ _ _ _ _ hx₀ ht => ?_
  subst hx₀
  refine and_el ht fun ht hx => ?_
  refine and_el ht fun ht hc => ?_
  refine and_el ht fun hv hf => ?_
  cases beq_iff_eq.mp hf
  refine bind_el he fun u hev he1 => ?_
  refine bind_el he1 fun i hi he2 => ?_
  obtain ⟨ρ₁, hp, e'⟩ := map_of he2
  clear he he1 he2
  cases e'
  cases LV.int?_of hi
  refine plainObj_wpAny_Assign_Attribute ((sound_L OK ao hcf e).1 k env ρ hs N₀ W _ _ hx hev EF.el EF.ko R.len s _ _ R.rd fun y s₁ r k₁ => ?_) (notComp_swaps hc _ _ _)
  obtain ⟨t, rfl⟩ := r
  obtain ⟨I, va, w0⟩ := attr_store (A := A) (t := t) OK hT (R.grow k₁.grow) (isVarL_of hv) hp
  exact load_at EF.el (isVarL_of hv) va (w0 _ _ fun s' a => h .next W s' ((Aft.of_kg R k₁).trans a) rfl)
theorem s_mk (v mv : Nat) (e : LE) : GoodSt X A cf (.mk v mv e) := by
  intro k env ρ hs N₀ W t fl ρ' ht he EF hT s Q E' R h
  refine inv_trLS_mk ht fun _ _ _ _ _ _ _ _ _ _ _ _ _ hx₀ ht => ?_
  subst hx₀
  refine and_el ht fun ht hx => ?_
  refine and_el ht fun ht hp => ?_
  refine and_el ht fun ht hmv => ?_
  refine and_el ht fun ht h5 => ?_
  refine and_el ht fun ht h4 => ?_
  refine and_el ht fun ht hg => ?_
  refine and_el ht fun hv h2 => ?_
  cases beq_iff_eq.mp h2
  cases beq_iff_eq.mp h4
  cases beq_iff_eq.mp h5
  refine bind_el he fun x hev he => ?_
  obtain ⟨ρ₁, hmk, e'⟩ := map_of he
  cases e'
  exact mk_mach OK EF ao hcf hT R (isVarL_of hv) (isVarL_of hmv) (EF.ko.g _ (isGlob_of hg)) hx hev hmk fun s' a => h _ _ s' a rfl
theorem s_ret (e : LE) : GoodSt X A cf (.ret e) := by
  intro k env ρ hs N₀ W t fl ρ' ht he EF hT s Q E' R h
  refine inv_trLS_ret ht fun _ _ hx₀ ht => ?_
  subst hx₀
  refine and_el ht fun hst hx => ?_
  obtain ⟨x, hev, e'⟩ := map_of he
  cases e'
  exact wpAny_Return_some ((sound_L OK ao hcf e).1 k env ρ hs N₀ W _ x hx hev EF.el EF.ko R.len s _ _ R.rd fun y s₁ r k₁ => h _ W s₁ (Aft.of_kg R k₁) ⟨y, rfl, (r.unfl hst).weak fun _ _ q => .inl q⟩)
omit OK ao hcf in
theorem s_brk : GoodSt X A cf .brk := by
  intro k env ρ hs N₀ W t fl ρ' ht he EF hT s Q E' R h
  refine inv_trLS_brk ht fun _ hx₀ ht => ?_
  subst hx₀
  (injection he with he; injection he with he hz; subst he; subst hz)
  exact wpAny_Break (h _ W s (.refl R) rfl)
theorem s_ite {t : LE} {a b : LSs} (ga : GoodSts X A cf a) (gb : GoodSts X A cf b) : GoodSt X A cf (.ite t a b) := by
  intro k env ρ hs N₀ W st fl ρ' ht he EF hT s Q E' R h
  refine inv_trLS_ite ht fun _ _ _ _ hx₀ ht => ?_
  subst hx₀
  refine and_el ht fun ht hb => ?_
  refine and_el ht fun hx ha => ?_
  refine bind_el he fun x hev he => ?_
  refine bind_el he fun q hv he => ?_
  refine wpAny_If ((sound_L OK ao hcf t).2 k env ρ hs N₀ W _ x q hx hev hv EF.el EF.ko R.len s _ _ R.rd fun s₁ k₁ => ?_)
  cases q
  · exact gb k env ρ hs N₀ W _ fl ρ' hb he EF hT s₁ _ _ (R.grow k₁.grow) fun f W' s' a r => h f W' s' ((Aft.of_kg R k₁).trans a) r
  · exact ga k env ρ hs N₀ W _ fl ρ' ha he EF hT s₁ _ _ (R.grow k₁.grow) fun f W' s' a r => h f W' s' ((Aft.of_kg R k₁).trans a) r
omit OK ao hcf in
theorem ss_nil : GoodSts X A cf .nil := by
  intro k env ρ hs N₀ W t fl ρ' ht he EF hT s Q E' R h
  cases t with
  | nil => (injection he with he; injection he with he hz; subst he; subst hz); exact wpAny_execs_nil (h _ W s (.refl R) rfl)
  | cons _ _ => injection ht
omit OK ao hcf in
theorem ss_cons {a : LS} {r : LSs} (ga : GoodSt X A cf a) (gr : GoodSts X A cf r) : GoodSts X A cf (.cons a r) := by
  intro k env ρ hs N₀ W t fl ρ' ht he EF hT s Q E' R h
  cases t with
  | nil => injection ht
  | cons x l =>
    refine and_el ht fun h1 h2 => ?_
    obtain ⟨⟨f₁, ρ₁⟩, h3, he⟩ := bind_of he
    refine wpAny_execs_cons (ga k env ρ hs N₀ W x _ _ h1 h3 EF hT s _ _ R fun f W₁ s₁ a₁ r₁ => ?_)
    cases f₁ with
    | next =>
      obtain rfl := r₁
      exact gr k env ρ₁ hs N₀ W₁ l fl ρ' h2 he EF hT s₁ _ _ a₁.fr fun f W' s' a₂ r₂ => h f W' s' (a₁.trans a₂) r₂
    | brk => (injection he with he; injection he with he hz; subst he; subst hz); obtain rfl := r₁; exact h _ W₁ s₁ a₁ rfl
    | ret v => (injection he with he; injection he with he hz; subst he; subst hz); obtain ⟨y, rfl, ry⟩ := r₁; exact h _ W₁ s₁ a₁ ⟨y, rfl, ry⟩
end
end Mine

end
section
open PySem PySem.W PyProof.Rows
set_option maxRecDepth 100000
set_option maxHeartbeats 1000000
set_option linter.unusedSimpArgs false
set_option linter.unusedVariables false
set_option linter.unusedSectionVars false
namespace Mine
section
variable {X : LX} {A : Around} {cf : Nat → List LV → Option LV} (OK : LOk X) {d : Nat} (ao : AOk A (d + deep + 2)) (hcf : CallLOk X A cf)
include OK ao hcf
end
end Mine

end
section
open PySem PySem.W PyProof.Rows
set_option maxRecDepth 100000
set_option maxHeartbeats 1000000
set_option linter.unusedSimpArgs false
set_option linter.unusedVariables false
set_option linter.unusedSectionVars false
namespace Mine
section
variable {X : LX} {A : Around} {cf : Nat → List LV → Option LV} (OK : LOk X) {d : Nat} (ao : AOk A (d + deep + 2)) (hcf : CallLOk X A cf)
include OK ao hcf
end
end Mine

end
section
open PySem PySem.W PyProof.Rows
set_option maxRecDepth 100000
set_option maxHeartbeats 1000000
set_option linter.unusedSimpArgs false
set_option linter.unusedVariables false
set_option linter.unusedSectionVars false
namespace Mine
section
variable {X : LX} {A : Around} {cf : Nat → List LV → Option LV} (OK : LOk X) {d : Nat} (ao : AOk A (d + deep + 2)) (hcf : CallLOk X A cf)
theorem evo_st {prog : Program} {w : World} {I : Addr} {fp wr : List Addr} {n : Nat} {P : Nat → Value → Prop} {St : Nat → Heap → Prop} (Wk : Walks prog w A I fp wr n P St) (stK : ∀ i (h : Heap) b o, St i h → b ∈ fp → h.get? b = some o → isStore o = false) {W : Addr → Prop} (nw : ∀ b ∈ fp, ¬ W b) {i : Nat} {h h' : Heap} (st : St i h) (e : Evo W h h') : St i h' :=
  Wk.frame i h h' st fun b hb o eo => e b o eo (nw b hb) (stK i h b o st hb eo)
noncomputable abbrev LoopQ (I : Nat → Shared → Prop) (n : Nat) (Q : Flow → Shared → Prop) : Flow → Shared → Prop := fun f s => match f with
  | .next | .cont => ∃ m, m < n ∧ I m s
  | .brk => Q .next s
  | .ret v => Q (.ret v) s
noncomputable def ForI (X : LX) (hs : Addr → Option Obj) (N₀ : Addr → Prop) (env : Env) (vars : List Str) (W : Addr → Prop) (s₀ : Shared) (St : Nat → Heap → Prop) (I : Addr) (items : List LV) (F : List LV → LLoc → Option (LFl × LLoc)) (r : LFl × LLoc) (n : Nat) (s : Shared) : Prop :=
  ∃ i ρ W₁, i ≤ items.length ∧ n = items.length - i ∧ F (items.drop i) ρ = some r ∧ St i s.heap ∧ ¬ W₁ I ∧ Aft X hs N₀ env vars W s₀ ρ W₁ s
include OK ao hcf
theorem s_for {tg : LTg} {src : LSrc} {b : LSs} (gb : GoodSts X A cf b) : GoodSt X A cf (.for tg src b) := by
  intro k env ρ hs N₀ W t fl ρ' ht he EF hT s Q E' R h
  refine inv_trLS_for ht fun tgx itx bodyx _ posx hx₀ ht => ?_
  subst hx₀
  refine and_el ht fun ht hbody => ?_
  refine and_el ht fun ht hsr => ?_
  refine and_el ht fun ho htg => ?_
  cases List.isEmpty_iff.mp ho
  refine bind_el he fun items hi he => ?_
  refine wpAny_For (sound_Src OK ao hcf src k env ρ hs N₀ W _ items hsr hi EF.el EF.ko R.len s _ _ R.rd fun it s₂ S => ?_) (fold_src hsr env)
  obtain ⟨I, fp, P, St, hp, rfl, hz, Wk, st, nI, g1, g2, kg, eI, hfp, hP, stK, itK, go⟩ := S
  have Rp := R.grow g1
  have nIW : ¬ W I := fun w => by obtain ⟨its, o, _, e, _⟩ := Rp.rd.lists I (.inr w); rw [nI] at e; injection e
  have hsI : hs I = none := by
    cases q : hs I with
    | none => rfl
    | some o => have := Rp.hb _ _ q; rw [nI] at this; injection this
  generalize e0 : ({ s₂ with heap := hp } : Shared) = s₀
  have h0 : s₀.heap = hp := e0 ▸ rfl
  have a0 : Aft X hs N₀ env k.vars W s₀ ρ W s₂ := e0 ▸ Aft.of_kg (s := { s₂ with heap := hp }) Rp ⟨s₂.heap, s₂.toks, rfl, g2⟩
  generalize eF : forL (bindTg tg) (fun ρ => exLs X.x.c X.im X.fuel cf b ρ) = F at he
  refine codeAny_forLoop_any (ForI X hs N₀ env k.vars W s₀ St I items F (fl, ρ')) ?_ items.length ⟨0, ρ, W, Nat.zero_le _, rfl, he, st, nIW, a0⟩
  have fin : ∀ {f W' s'}, Aft X hs N₀ env k.vars W s₀ ρ' W' s' → FlL N₀ W' s'.heap fl f → Q f s' := fun {f W' s'} a r => by
    subst e0
    refine h f W' s' ⟨a.fr, fun x w => ?_, fun x o e n st => a.evo x o (g1 x o e) n st, fun x o e => a.live x o (g1 x o e), ?_⟩ r
    · rcases a.new x w with q | q
      · exact .inl q
      · exact .inr (none_down g1 q)
    · obtain ⟨h1, t1, rfl, _⟩ := kg
      obtain ⟨h2, t2, rfl⟩ := a.ks
      exact ⟨h2, t2, rfl⟩
  rintro n s₃ ⟨i, ρ₁, W₁, hle, rfl, hf, st₃, nI₁, a₃⟩
  have nwf : ∀ b ∈ fp, ¬ W₁ b := fun b hb q => by
    rcases hfp b hb with rfl | ⟨o, e, _, nb⟩
    · exact nI₁ q
    · rcases a₃.new b q with z | z
      · exact nb z
      · rw [h0, e] at z; injection z
  -- the iterator goes on
  have next : ∀ (h' : Heap) (tk : Nat), (∀ b o, b ∉ [I] → s₃.heap.get? b = some o → h'.get? b = some o) → Aft X hs N₀ env k.vars W s₀ ρ₁ W₁ { s₃ with heap := h', toks := tk } := fun h' tk keep => by
    have keep' : ∀ b o, b ≠ I → s₃.heap.get? b = some o → h'.get? b = some o := fun b o q e => keep b o (fun z => q (List.mem_singleton.mp z)) e
    refine ⟨a₃.fr.offI keep' (itK i _ st₃) hsI, a₃.new, fun x o e n sto => keep' x o (fun q => by rw [h0, q, nI] at e; injection e) (a₃.evo x o e n sto), fun x o e => ?_, ?_⟩
    · obtain ⟨o', e', tg⟩ := a₃.live x o e
      exact ⟨o', keep' x o' (fun q => by rw [h0, q, nI] at e; injection e) e', tg⟩
    · obtain ⟨h2, t2, rfl⟩ := a₃.ks
      exact ⟨h', tk, rfl⟩
  by_cases hlt : i < items.length
  · refine Wk.item i s₃ _ _ hlt st₃ fun v h' tk hpv st₄ keep => ?_
    obtain ⟨lv, hlv, rlv⟩ := hP i v hpv
    have hdrop : items.drop i = lv :: items.drop (i + 1) := by
      rw [List.drop_eq_getElem_cons hlt]
      rw [List.getElem?_eq_getElem hlt] at hlv
      rw [Option.some.inj hlv]
    rw [hdrop, ← eF] at hf
    refine bind_el hf fun ρ₂ hbd hf => ?_
    obtain ⟨⟨f₁, ρ₃⟩, hex, hf⟩ := bind_of hf
    rw [eF] at hf
    have a₄ := next h' tk keep
    have rv₄ : RV (nn N₀ W₁) h' lv v := a₄.val (h0 ▸ Rp) (h0 ▸ rlv)
    have turn : ∀ E₁ E₂, wpAny (model X.x.prog X.x.w) A (assign tgx env v) (fun _ s₅ => wpAny (model X.x.prog X.x.w) A (execs bodyx env) (LoopQ (ForI X hs N₀ env k.vars W s₀ St I items F (fl, ρ')) (items.length - i) Q) E₁ s₅) E₂ { s₃ with heap := h', toks := tk } := fun E₁ E₂ => by
      refine bind_ok ao.hh EF htg hbd a₄.fr rv₄ fun s₅ a₅ => ?_
      have st₅ : St (i + 1) s₅.heap := evo_st Wk stK nwf st₄ a₅.evo
      refine gb k env ρ₂ hs N₀ W₁ _ f₁ ρ₃ hbody hex EF hT s₅ _ _ a₅.fr fun f W₂ s₆ a₆ r₆ => ?_
      have a₇ := a₄.trans (a₅.trans a₆)
      cases f₁ with
      | next =>
        obtain rfl := r₆
        refine ⟨items.length - (i + 1), by omega, i + 1, ρ₃, W₂, hlt, rfl, hf, evo_st Wk stK nwf st₅ a₆.evo, fun w => ?_, a₇⟩
        rcases a₆.new I w with q | q
        · exact nI₁ q
        · obtain ⟨o, _, e, _⟩ := itK _ _ st₅; rw [q] at e; injection e
      | brk => (injection hf with hf; injection hf with hf hz; subst hf; subst hz); obtain rfl := r₆; exact fin a₇ rfl
      | ret x => (injection hf with hf; injection hf with hf hz; subst hf; subst hz); obtain ⟨y, rfl, ry⟩ := r₆; exact fin a₇ ⟨y, rfl, ry⟩
    -- a tuple's own hand
    cases tg with
    | one w => revert turn; apply o_Name_elim htg; intro _ _ _ turn; exact wpAny_of_eq rfl (turn _ _)
    | many ws =>
      refine bind_el hbd fun xs hx _ => ?_
      cases LV.tup?_of hx
      obtain ⟨a, its, rfl, _⟩ := rv₄
      revert turn
      apply o_Tuple_elim htg; intro _ _ _ _ turn
      exact go (i + 1) _ a _ _ _ _ _ st₄ (turn _ _)
  · obtain rfl : i = items.length := Nat.le_antisymm hle (Nat.not_lt.mp hlt)
    rw [List.drop_length, ← eF] at hf
    (injection hf with hf; injection hf with hf hz; subst hf; subst hz)
    exact Wk.done s₃ _ _ st₃ fun h' tk keep => wpAny_execs_nil (fin (next h' tk keep) rfl)
end
end Mine

end
section
open PySem PySem.W PyProof.Rows
set_option maxRecDepth 100000
set_option maxHeartbeats 1000000
set_option linter.unusedSimpArgs false
set_option linter.unusedVariables false
set_option linter.unusedSectionVars false
namespace Mine
section
variable {X : LX} {A : Around} {cf : Nat → List LV → Option LV} (OK : LOk X) {d : Nat} (ao : AOk A (d + deep + 2)) (hcf : CallLOk X A cf)
theorem FrR.offII {hs : Addr → Option Obj} {N₀ : Addr → Prop} {env : Env} {k : LC} {ρ : LLoc} {W : Addr → Prop} {h h' : Heap} {I J : Addr} (R : FrR X hs N₀ env k.vars ρ W h) (keep : ∀ b o, b ≠ I → b ≠ J → h.get? b = some o → h'.get? b = some o)
    (kI : ∃ o vs, h.get? I = some o ∧ o.data = .fields vs ∧ ItO o vs) (hI : hs I = none) (kJ : ∃ o vs, h.get? J = some o ∧ o.data = .fields vs ∧ ItO o vs) (hJ : hs J = none) : FrR X hs N₀ env k.vars ρ W h' := by
  have ne1 : ∀ {I : Addr}, (∃ o vs, h.get? I = some o ∧ o.data = .fields vs ∧ ItO o vs) → ∀ {b : Addr} {o : Obj}, h.get? b = some o → (∀ vs, o.data ≠ .fields vs) → b ≠ I := fun {I} k {b} {o} e d q => by
    obtain ⟨oI, vs, eI, dI, cI⟩ := k
    rw [q, eI] at e; (injection e with e; subst e); exact d vs dI
  have ne : ∀ {b : Addr} {o : Obj}, h.get? b = some o → (∀ vs, o.data ≠ .fields vs) → ¬ (b = I ∨ b = J) := fun e d q => by
    rcases q with q | q
    · exact ne1 kI e d q
    · exact ne1 kJ e d q
  refine R.same (Z := fun b => b = I ∨ b = J) (R.rd.tab.keepZ (Z := fun b => b = I ∨ b = J) (fun b o q e => keep b o (fun z => q (.inl z)) (fun z => q (.inr z)) e) fun b o vs' q e d => by
    rcases q with q | q
    · obtain ⟨oI, vs, eI, dI, cI⟩ := kI
      rw [q, eI] at e; (injection e with e; subst e); rw [d] at dI; (injection dI with dI; subst dI); exact cI.2
    · obtain ⟨oI, vs, eI, dI, cI⟩ := kJ
      rw [q, eI] at e; (injection e with e; subst e); rw [d] at dI; (injection dI with dI; subst dI); exact cI.2) (fun b o q e => keep b o (fun z => q (.inl z)) (fun z => q (.inr z)) e) (fun b q => by rcases q with q | q; exact q ▸ hI; exact q ▸ hJ) ?_ (fun n c hc => ?_) (fun b o a n e d => ne e fun vs q => by rw [d] at q; injection q)
    (fun b f s e q => ?_) (fun b C D e => ne e fun vs q => nomatch q) (fun b m n => ?_)
  · obtain ⟨m, o, es, ep, e, d, _⟩ := R.locNs
    exact ne e fun vs q => by rw [d] at q; injection q
  · obtain ⟨_, v, o, e, d⟩ := R.celN n c hc
    exact ne e fun vs q => by rw [d] at q; injection q
  · rcases q with q | q
    · obtain ⟨oI, vs, eI, dI, cI⟩ := kI
      rw [q, eI] at e; (injection e with e; subst e); exact cI.1 rfl
    · obtain ⟨oI, vs, eI, dI, cI⟩ := kJ
      rw [q, eI] at e; (injection e with e; subst e); exact cI.1 rfl
  · obtain ⟨o, es, ep, e, d, _⟩ := n
    exact ne e fun vs q => by rw [d] at q; injection q
noncomputable def ForII (X : LX) (hs : Addr → Option Obj) (N₀ : Addr → Prop) (env : Env) (vars : List Str) (W : Addr → Prop) (s₀ : Shared) (St : Nat → Heap → Prop) (I J : Addr) (items : List LV) (F : List LV → LLoc → Option (LFl × LLoc)) (r : LFl × LLoc) (n : Nat) (s : Shared) : Prop :=
  ∃ i ρ W₁, i ≤ items.length ∧ n = items.length - i ∧ F (items.drop i) ρ = some r ∧ St i s.heap ∧ ¬ W₁ I ∧ ¬ W₁ J ∧ Aft X hs N₀ env vars W s₀ ρ W₁ s
theorem enum_len : ∀ (k : Nat) (xs : List Int), (enumItems k xs).length = xs.length
  | _, [] => rfl
  | k, x :: l => congrArg (· + 1) (enum_len (k + 1) l)
theorem enum_get : ∀ (k : Nat) (xs : List Int) (i : Nat) (x : Int), xs[i]? = some x → (enumItems k xs)[i]? = some (.tup [.int ((k + i : Nat) : Int), .int x])
  | k, y :: l, 0, x, h => by (injection h with h; subst h); rfl
  | k, y :: l, i + 1, x, h => by
    show (enumItems (k + 1) l)[i]? = _
    rw [enum_get (k + 1) l i x h, show k + 1 + i = k + (i + 1) by omega]
include OK ao hcf
theorem s_forE {vs : List Nat} {e : LE} {b : LSs} (gb : GoodSts X A cf b) : GoodSt X A cf (.forE vs e b) := by
  intro k env ρ hs N₀ W t fl ρ' ht he EF hT s Q E' R h
  refine inv_trLS_forE ht fun tgx n0 q0 x0 p0 bodyx posx hx₀ htg hit hbody => ?_
  subst hx₀
  refine and_el hit fun hit htr => ?_
  refine and_el hit fun hit hst => ?_
  refine and_el hit fun hit hp => ?_
  refine and_el hit fun hn hg => ?_
  cases beq_iff_eq.mp hn
  refine bind_el he fun v hv he => ?_
  refine bind_el he fun xs hxs he => ?_
  cases LV.ints?_of hxs
  obtain ⟨b1, b2⟩ := OK.blt "enumerate" (.type "enumerate") (.tail _ (.tail _ (.tail _ (.tail _ (.head _)))))
  refine wpAny_For (wpAny_Call_NameR (load_builtin EF.el (OK.g.keeps R.rd.base) (OK.b.keeps R.rd.base) (EF.ko.g _ (isGlob_of hg)) b1 b2 (by decide) ?_)) (fun _ => rfl)
  rw [plainL_star hp env []]
  refine PySem.callWith_type rfl (Calls.evalArgs_plain (Calls.spliced_cons ((sound_L OK ao hcf e).1 k env ρ hs N₀ W _ _ htr hv EF.el EF.ko R.len s _ _ R.rd fun y s₁ r k₁ => Calls.spliced_nil ?_)))
  obtain ⟨l, its, rfl, hnl, hl, hi, hz⟩ := r.unfl hst
  refine call_enumerate_list hl fun h₂ hE hI hsz up => wpAny_pyIter_enum hE ?_
  have R₁ := R.grow k₁.grow
  have hlt : l < s₁.heap.objs.size := by obtain ⟨o, e, _⟩ := hl; exact Heap.lt_size e
  have Wk := WalksT.enumerate (prog := X.x.prog) (w := X.x.w) (A := A) ao.hh (s₁.heap.objs.size + 1) s₁.heap.objs.size l (Nat.ne_of_gt (Nat.lt_succ_self _)) (Nat.ne_of_lt (Nat.lt_succ_of_lt hlt)) (Nat.ne_of_lt hlt) its
  have nE : s₁.heap.get? (s₁.heap.objs.size + 1) = none := by
    cases q : s₁.heap.get? (s₁.heap.objs.size + 1) with
    | none => rfl
    | some o => exact absurd (Heap.lt_size q) (Nat.not_lt.mpr (Nat.le_succ _))
  have nI : s₁.heap.get? s₁.heap.objs.size = none := fresh_size
  generalize hEq : s₁.heap.objs.size + 1 = ea at *
  generalize hIq : s₁.heap.objs.size = ia at *
  have hsn : ∀ {a : Addr}, s₁.heap.get? a = none → hs a = none := fun {a} n => by
    cases q : hs a with
    | none => rfl
    | some o => have := R₁.hb _ _ q; rw [n] at this; injection this
  have nW : ∀ {a : Addr}, s₁.heap.get? a = none → ¬ W a := fun {a} n w => by obtain ⟨_, o, _, e, _⟩ := R₁.rd.lists a (.inr w); rw [n] at e; injection e
  have a0 : Aft X hs N₀ env k.vars W s₁ ρ W { s₁ with heap := h₂ } := Aft.of_kg R₁ ⟨h₂, s₁.toks, rfl, up⟩
  have hlen : (enumItems 0 xs).length = its.size := by rw [enum_len, ints_len hi]
  have wl : ¬ W l := fun w => hnl (.inr w)
  obtain ⟨ol, eol, sol, _⟩ := list_store hl
  generalize eF : forL (bindTg (.many vs)) (fun ρ => exLs X.x.c X.im X.fuel cf b ρ) = F at he
  refine codeAny_forLoop_any (ForII X hs N₀ env k.vars W s₁ (fun i h => (∃ old, IsEnum h ea ia i old) ∧ h.IsListIter ia l i ∧ h.IsList l its) ea ia (enumItems 0 xs) F (fl, ρ')) ?_ (enumItems 0 xs).length ⟨0, ρ, W, Nat.zero_le _, rfl, he, ⟨⟨_, hE⟩, hI, IsList.grow hl up⟩, nW nE, nW nI, a0⟩
  have fin : ∀ {f W' s'}, Aft X hs N₀ env k.vars W s₁ ρ' W' s' → FlL N₀ W' s'.heap fl f → Q f s' := fun {f W' s'} a r => h f W' s' ((Aft.of_kg R k₁).trans a) r
  rintro n s₃ ⟨i, ρ₁, W₁, hle, rfl, hf, st₃, nE₁, nI₁, a₃⟩
  -- what the iterators' own steps leave
  have off : ∀ (h' : Heap) (tk : Nat), (∀ b o, b ∉ [ea, ia] → s₃.heap.get? b = some o → h'.get? b = some o) → Aft X hs N₀ env k.vars W s₁ ρ₁ W₁ { s₃ with heap := h', toks := tk } := fun h' tk keep => by
    have keep' : ∀ b o, b ≠ ea → b ≠ ia → s₃.heap.get? b = some o → h'.get? b = some o := fun b o q q2 e => keep b o (by simp only [List.mem_cons, List.not_mem_nil, or_false, not_or]; exact ⟨q, q2⟩) e
    obtain ⟨⟨old, eE⟩, ⟨oI, eI, cI, dI⟩, _⟩ := st₃
    have no : ∀ {x : Addr} {o : Obj}, s₁.heap.get? x = some o → x ≠ ea ∧ x ≠ ia := fun e => ⟨fun q => (by rw [q, nE] at e; injection e), fun q => (by rw [q, nI] at e; injection e)⟩
    refine ⟨a₃.fr.offII keep' ⟨_, _, eE, rfl, (fun q => by injection q with z; exact absurd z (by decide)), (fun q => (nomatch q)), fun q t z => by cases z⟩ (hsn nE) ⟨_, _, eI, dI, (fun q => by rw [cI] at q; injection q with z; exact absurd z (by decide)), (by rw [cI]; exact fun q => (nomatch q)), fun q t z => by cases z⟩ (hsn nI), a₃.new, fun x o e n sto => keep' x o (no e).1 (no e).2 (a₃.evo x o e n sto), fun x o e => ?_, ?_⟩
    · obtain ⟨o', e', tg⟩ := a₃.live x o e
      exact ⟨o', keep' x o' (no e).1 (no e).2 e', tg⟩
    · obtain ⟨h2, t2, rfl⟩ := a₃.ks
      exact ⟨h', tk, rfl⟩
  by_cases hlt' : i < (enumItems 0 xs).length
  · have hi' : i < its.size := by rw [← hlen]; exact hlt'
    refine Wk.item i s₃ _ _ hi' st₃ fun T vals h₄ tk ⟨t0, x, hx, hvals⟩ hTz hTup hMid keep₄ => ?_
    subst hvals
    obtain ⟨z, hz'⟩ : ∃ z, xs[i]? = some z := ⟨_, List.getElem?_eq_getElem (by rw [← ints_len hi]; exact hi')⟩
    obtain ⟨u, hu⟩ := ints_at hi i z hz'
    have hxz : x = .int z u := by
      rw [Array.getElem?_toList, hx] at hu
      exact Option.some.inj hu
    subst hxz
    have hget := enum_get 0 xs i z hz'
    rw [Nat.zero_add] at hget
    have hdrop : (enumItems 0 xs).drop i = .tup [.int (i : Int), .int z] :: (enumItems 0 xs).drop (i + 1) := by
      rw [List.drop_eq_getElem_cons hlt']
      rw [List.getElem?_eq_getElem hlt'] at hget
      rw [Option.some.inj hget]
    rw [hdrop, ← eF] at hf
    refine bind_el hf fun ρ₂ hbd hf => ?_
    obtain ⟨⟨f₁, ρ₃⟩, hex, hf⟩ := bind_of hf
    rw [eF] at hf
    have turn : ∀ E₁ E₂ (h₅ : Heap), ((∃ old, IsEnum h₅ ea ia ((i + 1 : Nat) : Int) old) ∧ h₅.IsListIter ia l (i + 1) ∧ h₅.IsList l its) → (∀ b o, b ∉ [ea, ia] → h₄.get? b = some o → h₅.get? b = some o) → wpAny (model X.x.prog X.x.w) A (assign tgx env (.ref T)) (fun _ s₅ => wpAny (model X.x.prog X.x.w) A (execs bodyx env) (LoopQ (ForII X hs N₀ env k.vars W s₁ (fun i h => (∃ old, IsEnum h ea ia i old) ∧ h.IsListIter ia l i ∧ h.IsList l its) ea ia (enumItems 0 xs) F (fl, ρ')) ((enumItems 0 xs).length - i) Q) E₁ s₅) E₂ { s₃ with heap := h₅, toks := tk } := fun E₁ E₂ h₅ st₅ keep₅ => by
      have a₄ := off h₅ tk fun b o q e => keep₅ b o q (keep₄ b o q e)
      have hTup' : IsTup h₅ T #[.int (i : Int) t0, .int z u] := by
        obtain ⟨o, eo, r⟩ := hTup
        exact ⟨o, keep₅ T o (Wk.apart i T h₄ hMid) eo, r⟩
      refine bind_ok ao.hh EF htg hbd a₄.fr (x := .tup [.int (i : Int), .int z]) ⟨T, _, rfl, hTup', .cons ⟨t0, rfl⟩ (.cons ⟨u, rfl⟩ .nil)⟩ fun s₆ a₆ => ?_
      -- the iterators stay while the frame works
      have stay : ∀ {s s' : Shared} {W₁ : Addr → Prop} {j : Nat}, ((∃ old, IsEnum s.heap ea ia (j : Int) old) ∧ s.heap.IsListIter ia l j ∧ s.heap.IsList l its) → ¬ W₁ ea → ¬ W₁ ia → ¬ W₁ l → Evo W₁ s.heap s'.heap → ((∃ old, IsEnum s'.heap ea ia (j : Int) old) ∧ s'.heap.IsListIter ia l j ∧ s'.heap.IsList l its) := fun st n1 n2 n3 ev => by
        obtain ⟨⟨old, eE⟩, ⟨oI, eI, cI, dI⟩, ll⟩ := st
        refine ⟨⟨old, ev _ _ eE n1 rfl⟩, ⟨oI, ev _ _ eI n2 (by unfold isStore; rw [dI]; exact tabb_c (by rw [cI]; exact fun q => nomatch q)), cI, dI⟩, list_evo ll n3 ev⟩
      have nl₁ : ¬ W₁ l := fun w => by
        rcases a₃.new l w with q | q
        · exact wl q
        · rw [eol] at q; injection q
      have st₆ := stay st₅ nE₁ nI₁ nl₁ a₆.evo
      refine gb k env ρ₂ hs N₀ W₁ _ f₁ ρ₃ hbody hex EF hT s₆ _ _ a₆.fr fun f W₂ s₇ a₇ r₇ => ?_
      have a₈ := a₄.trans (a₆.trans a₇)
      cases f₁ with
      | next =>
        obtain rfl := r₇
        have st₇ := stay st₆ nE₁ nI₁ nl₁ a₇.evo
        refine ⟨(enumItems 0 xs).length - (i + 1), by omega, i + 1, ρ₃, W₂, hlt', rfl, hf, st₇, fun w => ?_, fun w => ?_, a₈⟩
        · rcases a₇.new ea w with q | q
          · exact nE₁ q
          · obtain ⟨⟨_, e⟩, _⟩ := st₆; have e : s₆.heap.get? ea = some _ := e; rw [q] at e; injection e
        · rcases a₇.new ia w with q | q
          · exact nI₁ q
          · obtain ⟨_, ⟨_, e, _⟩, _⟩ := st₆; rw [q] at e; injection e
      | brk => (injection hf with hf; injection hf with hf hz; subst hf; subst hz); obtain rfl := r₇; exact fin a₈ rfl
      | ret x => (injection hf with hf; injection hf with hf hz; subst hf; subst hz); obtain ⟨y, rfl, ry⟩ := r₇; exact fin a₈ ⟨y, rfl, ry⟩
    revert turn
    apply o_Tuple_elim htg; intro elts kk pos _ turn
    exact Wk.go elts kk pos i T _ _ _ hMid fun h₅ st₅ keep₅ => turn _ _ h₅ st₅ keep₅
  · obtain rfl : i = (enumItems 0 xs).length := Nat.le_antisymm hle (Nat.not_lt.mp hlt')
    rw [List.drop_length, ← eF] at hf
    (injection hf with hf; injection hf with hf hz; subst hf; subst hz)
    refine Wk.done s₃ _ _ (by rw [← hlen]; exact st₃) fun h' tk keep => wpAny_execs_nil (fin (off h' tk keep) rfl)
end
end Mine

end
section
open PySem PySem.W PyProof.Rows
set_option maxRecDepth 100000
set_option maxHeartbeats 1000000
set_option linter.unusedSimpArgs false
set_option linter.unusedVariables false
set_option linter.unusedSectionVars false
namespace Mine
section
variable {X : LX} {A : Around} {cf : Nat → List LV → Option LV} (OK : LOk X) {d : Nat} (ao : AOk A (d + deep + 2)) (hcf : CallLOk X A cf)
include OK ao hcf
omit OK ao hcf in
theorem ts_cons {k : LC} {t : LT} {ts : List LT} {l : List PySem.Expr} (h : trTs X.F k (t :: ts) l = true) : (∃ v n p l', t = .name v ∧ l = .Name n p :: l' ∧ k.isVar v n = true ∧ trTs X.F k ts l' = true) ∨
    (∃ v i n q e p l', t = .sub v i ∧ l = .Subscript (.Name n q) e p :: l' ∧ k.isVar v n = true ∧ plainL e = true ∧ trL X.F k i e = true ∧ trTs X.F k ts l' = true) ∨
    (∃ v f n q p l', t = .attr v f ∧ l = .Attribute (.Name n q) f.nm p :: l' ∧ k.isVar v n = true ∧ trTs X.F k ts l' = true) := by
  apply o_cons_elim h; intro x l h
  refine and_el h fun h1 h2 => ?_
  cases t with
  | name v =>
    left
    apply o_Name_elim h1; intro n p h1
    exact ⟨_, _, _, _, rfl, rfl, h1, h2⟩
  | attr v f =>
    right; right
    apply o_Attribute_elim h1; intro b a p h1
    apply o_Name_elim h1; intro n q h1
    refine and_el h1 fun h3 h4 => ?_
    cases beq_iff_eq.mp h4
    exact ⟨_, _, _, _, _, _, rfl, rfl, h3, h2⟩
  | sub v i =>
    right; left
    apply o_Subscript_elim h1; intro b e p h1
    apply o_Name_elim h1; intro n q h1
    refine and_el h1 fun h3 h4 => ?_
    refine and_el h3 fun h5 h6 => ?_
    exact ⟨_, _, _, _, _, _, _, rfl, rfl, h5, h6, h4, h2⟩
omit OK ao hcf in
theorem ts_nil {k : LC} {l : List PySem.Expr} (h : trTs X.F k [] l = true) : l = [] := List.isEmpty_iff.mp h
omit OK ao hcf in
theorem ts_len {k : LC} {env : Env} (ts : List LT) : ∀ {l : List PySem.Expr}, trTs X.F k ts l = true → (assignEach l env).length = ts.length ∧ (assignEach l env).findIdx? (·.1) = none := by
  induction ts with
  | nil => intro l h; rw [ts_nil h]; exact ⟨rfl, rfl⟩
  | cons t ts ih =>
    intro l h
    have key : ∃ x l', l = x :: l' ∧ trTs X.F k ts l' = true ∧ assignEach (x :: l') env = (false, assign x env) :: assignEach l' env := by
      rcases ts_cons h with ⟨v, n, p, l', rfl, rfl, h1, h2⟩ | ⟨v, i, n, q, e, p, l', rfl, rfl, h1, hpl, hi, h2⟩ | ⟨v, f, n, q, p, l', rfl, rfl, h1, h2⟩
      · exact ⟨_, _, rfl, h2, rfl⟩
      · exact ⟨_, _, rfl, h2, rfl⟩
      · exact ⟨_, _, rfl, h2, rfl⟩
    obtain ⟨x, l', rfl, h2, e⟩ := key
    obtain ⟨a, b⟩ := ih h2
    rw [e]
    refine ⟨?_, ?_⟩
    · rw [List.length_cons, a]; rfl
    · rw [List.findIdx?_cons, b]; rfl
theorem store_ts {k : LC} {env : Env} {hs : Addr → Option Obj} {N₀ : Addr → Prop} (EF : EnvF env k) (hT : HsT hs) (ts : List LT) : ∀ (l : List PySem.Expr) (vs : List LV) (ys : List Value) (ρ ρ' : LLoc) (W : Addr → Prop) (s : Shared) (Q : Unit → Shared → Prop) (E' : Value → Shared → Prop), trTs X.F k ts l = true → storeTs cf vs ts ρ = some ρ' →
    FrR X hs N₀ env k.vars ρ W s.heap → Paired (RV (nn N₀ W) s.heap) vs ys → (∀ s', Aft X hs N₀ env k.vars W s ρ' W s' → Q () s') → wpAny (model X.x.prog X.x.w) A (assignInOrder ((assignEach l env).map (·.2)) ys) Q E' s := by
  induction ts with
  | nil =>
    intro l vs ys ρ ρ' W s Q E' ht hb R pr h
    cases ts_nil ht
    cases pr with
    | nil => (injection hb with hb; subst hb); exact wpAny_pure (h s (.refl R))
    | cons _ _ => injection hb
  | cons t ts ih =>
    intro l vs ys ρ ρ' W s Q E' ht hb R pr h
    cases pr with
    | nil => cases t <;> injection hb
    | cons r pr =>
      rename_i x y vs ys
      rcases ts_cons ht with ⟨v, n, p, l', rfl, rfl, h1, h2⟩ | ⟨v, i, n, q, e, p, l', rfl, rfl, h1, hpl, hi, h2⟩ | ⟨v, f, n, q, p, l', rfl, rfl, h1, h2⟩
      rotate_left 2
      · obtain ⟨m, hm, hb1⟩ := bind_of hb
        refine bind_el hb1 fun ρ₁ hps hb2 => ?_
        clear hb hb1
        obtain ⟨t1, rfl⟩ : ∃ t, y = .int m t := by rw [LV.int?_of hm] at r; exact r
        show wpAny _ A (do holding ys (assign (.Attribute (.Name n q) f.nm p) env (.int m t1)); assignInOrder ((assignEach l' env).map (·.2)) ys) Q E' s
        refine wpAny_bind (wpAny_holding ?_)
        rw [assign_Attribute]
        obtain ⟨I, va, w0⟩ := attr_store (A := A) (t := t1) OK hT R (isVarL_of h1) hps
        exact wpAny_bind (wpAny_holding (load_at EF.el (isVarL_of h1) va (wpAny_bind (wpAny_standAt (wpAny_bind (wpAny_holding (w0 _ _ fun s₁ a₁ => wpAny_release (ih l' vs ys ρ₁ ρ' W s₁ Q E' h2 hb2 a₁.fr (pr.mono fun u y q => a₁.val R q) fun s' a₂ => h s' (a₁.trans a₂)))))))))
      · obtain ⟨ρ₁, hp, hb⟩ := bind_of hb
        show wpAny _ A (do holding ys (assign (.Name n p) env y); assignInOrder ((assignEach l' env).map (·.2)) ys) Q E' s
        refine wpAny_bind (wpAny_holding (wpAny_assign_Name (store_val EF R (isVarL_of h1) hp r fun s₁ a₁ => ?_)))
        exact ih l' vs ys ρ₁ ρ' W s₁ Q E' h2 hb a₁.fr (pr.mono fun u y q => a₁.val R q) fun s' a₂ => h s' (a₁.trans a₂)
      · obtain ⟨m, hm, hb⟩ := bind_of hb
        refine bind_el hb fun w hj hb => ?_
        refine bind_el hb fun j hw hb => ?_
        refine bind_el hb fun ρ₁ hps hb => ?_
        obtain ⟨xs, _, hown, _⟩ := putSub_of hps
        obtain ⟨t1, rfl⟩ : ∃ t, y = .int m t := by rw [LV.int?_of hm] at r; exact r
        rw [LV.int?_of hw] at hj
        show wpAny _ A (do holding ys (assign (.Subscript (.Name n q) e p) env (.int m t1)); assignInOrder ((assignEach l' env).map (·.2)) ys) Q E' s
        refine wpAny_bind (wpAny_holding ?_)
        rw [assign_Subscript]
        refine wpAny_bind (wpAny_holding (load_own R.rd EF.el (isVarL_of h1) hown fun a its va wa la ia z => wpAny_bind (wpAny_holding ((sound_L OK ao hcf i).1 k env _ hs N₀ W _ _ hi hj EF.el EF.ko R.len s _ _ R.rd fun yi s₁ ri k₁ => wpAny_bind (wpAny_standAt (wpAny_bind (wpAny_holding ?_)))))))
        obtain ⟨t2, rfl⟩ := ri
        refine sub_store EF (R.grow k₁.grow) (isVarL_of h1) (va.grow k₁.grow) hps fun s₂ a₂ => wpAny_release ?_
        have a₃ := (Aft.of_kg R k₁).trans a₂
        exact ih l' vs ys ρ₁ ρ' W s₂ Q E' h2 hb a₃.fr (pr.mono fun u y q => a₃.val R q) fun s' a₄ => h s' (a₃.trans a₄)
theorem store_ns {k : LC} {env : Env} {hs : Addr → Option Obj} {N₀ : Addr → Prop} (EF : EnvF env k) (ns : List (Nat × Str)) : ∀ (vs : List LV) (ys : List Value) (ρ ρ' : LLoc) (W : Addr → Prop) (s : Shared) (Q : Unit → Shared → Prop) (E' : Value → Shared → Prop), (∀ q ∈ ns, k.vars[q.1]? = some q.2) → storeTs cf vs (ns.map fun q => LT.name q.1) ρ = some ρ' →
    FrR X hs N₀ env k.vars ρ W s.heap → Paired (RV (nn N₀ W) s.heap) vs ys → (∀ s', Aft X hs N₀ env k.vars W s ρ' W s' → Q () s') → wpAny (model X.x.prog X.x.w) A (assignInOrder (ns.map fun q => bindName env q.2) ys) Q E' s := by
  induction ns with
  | nil =>
    intro vs ys ρ ρ' W s Q E' ht hb R pr h
    cases pr with
    | nil => (injection hb with hb; subst hb); exact wpAny_pure (h s (.refl R))
    | cons _ _ => injection hb
  | cons q ns ih =>
    intro vs ys ρ ρ' W s Q E' ht hb R pr h
    cases pr with
    | nil => injection hb
    | cons r pr =>
      rename_i x y vs ys
      refine bind_el hb fun ρ₁ hp hb => ?_
      show wpAny _ A (do holding ys (bindName env q.2 y); assignInOrder (ns.map fun q => bindName env q.2) ys) Q E' s
      refine wpAny_bind (wpAny_holding (wpAny_bindName (store_val EF R (ht q List.mem_cons_self) hp r fun s₁ a₁ => ?_)))
      exact ih vs ys ρ₁ ρ' W s₁ Q E' (fun z hz => ht z (List.mem_cons_of_mem _ hz)) hb a₁.fr (pr.mono fun u y q => a₁.val R q) fun s' a₂ => h s' (a₁.trans a₂)
end
end Mine

end
section
open PySem PySem.W PyProof.Rows
set_option maxRecDepth 100000
set_option maxHeartbeats 1000000
set_option linter.unusedSimpArgs false
set_option linter.unusedVariables false
set_option linter.unusedSectionVars false
namespace Mine
section
variable {X : LX} {hs : Addr → Option Obj} {N₀ : Addr → Prop} {env : Env} {k : LC} {ρ ρ' : LLoc} {W : Addr → Prop} {s : Shared} {A : Around} {E' : Value → Shared → Prop}
end
section
variable {X : LX} {A : Around} {cf : Nat → List LV → Option LV} (OK : LOk X) {d : Nat} (ao : AOk A (d + deep + 2)) (hcf : CallLOk X A cf)
include OK ao hcf
theorem s_slp (v : Nat) (lo hi e : LE) : GoodSt X A cf (.slp v lo hi e) := by
  intro k env ρ hs N₀ W t fl ρ' ht he EF hT s Q E' R h
  refine inv_trLS_slp ht fun n q a b st p1 p2 x p3 hx₀ ht => ?_
  subst hx₀
  refine and_el ht fun ht hx => ?_
  refine and_el ht fun ht hb => ?_
  refine and_el ht fun ht ha => ?_
  refine and_el ht fun ht hst => ?_
  refine and_el ht fun ht hc => ?_
  refine and_el ht fun hv hno => ?_
  cases Option.isNone_iff_eq_none.mp hno
  refine bind_el he fun w hev he => ?_
  refine bind_el he fun ys hys he => ?_
  refine bind_el he fun l hlo he => ?_
  refine bind_el he fun u hhi he => ?_
  refine bind_el he fun pl hpl he => ?_
  refine bind_el he fun ph hph he => ?_
  refine bind_el he fun w2 hw2 he => ?_
  refine bind_el he fun xs hxs he => ?_
  obtain ⟨hz, he⟩ := cond_of he
  obtain ⟨ρ₁, hset, e'⟩ := map_of he
  cases e'
  cases LV.ints?_of hys
  cases LV.own?_of hxs
  have hz := Nat.le_of_ble_eq_true hz
  refine wpAny_Assign_Subscript ((sound_L OK ao hcf e).1 k env ρ hs N₀ W _ _ hx hev EF.el EF.ko R.len s _ _ R.rd fun y s₁ r k₁ => load_own (R.grow k₁.grow).rd EF.el (isVarL_of hv) hw2 fun al its va wa ll il zl =>
    wpAny_Slice (opt_good (sound_L OK ao hcf lo).1 k env ρ hs N₀ W _ l ha hlo EF.el EF.ko R.len s₁ _ _ (R.grow k₁.grow).rd fun yl s₂ rl k₂ => opt_good (sound_L OK ao hcf hi).1 k env ρ hs N₀ W _ u hb hhi EF.el EF.ko R.len s₂ _ _ (R.grow (k₁.trans k₂).grow).rd fun yu s₃ ru k₃ => ?_)) (notComp_swaps hc _ _ _)
  rw [evalPart_none]
  refine wpAny_pure ?_
  have kk := ((k₁.trans k₂).trans k₃).trans (Kg.push' (s := s₃) (o := { cls := .type "slice", data := .fields #[yl, yu, .none] }))
  have k23 := (k₂.trans k₃).trans (Kg.push' (s := s₃) (o := { cls := .type "slice", data := .fields #[yl, yu, .none] }))
  obtain ⟨al2, jts, rfl, nb, lb, ib, zb⟩ := r.unfl hst
  have hne : al ≠ al2 := fun q => nb (q ▸ .inr wa)
  have hlen : its.size + jts.size ≤ lim := by rw [ints_len il, ints_len ib]; exact hz
  refine setSlice_plain (ll.keeps k23.grow) (IsList.grow lb k23.grow) hne (Heap.IsSliceOf.new ..) (part_of (rl.grow (k₃.trans (Kg.push' (s := s₃) (o := { cls := .type "slice", data := .fields #[yl, yu, .none] }))).grow) hpl) (part_of (ru.grow (Kg.push' (s := s₃) (o := { cls := .type "slice", data := .fields #[yl, yu, .none] })).grow) hph) (Nat.le_trans hlen lim_size) fun h' l' sb => ?_
  refine h _ W _ ((Aft.of_kg R kk).trans (own_upd (t' := s₃.toks) (R.grow kk.grow) EF (isVarL_of hv) hw2 (va.grow k23.grow) l' (xs' := putSl xs pl ph ys) ?_ ?_ sb hset)) rfl
  · rw [slPut_list]
    unfold putSl
    rw [ints_len il]
    exact ((ints_take il _).append ib).append (ints_drop il _)
  · unfold putSl
    rw [List.length_append, List.length_append, List.length_take, List.length_drop]
    omega
end
end Mine

end
section
open PySem PySem.W PyProof.Rows
set_option maxRecDepth 100000
set_option maxHeartbeats 1000000
set_option linter.unusedSimpArgs false
set_option linter.unusedVariables false
set_option linter.unusedSectionVars false
namespace Mine
noncomputable def lineOf (l : List PySem.Expr) : Nat := (l.head?.map (·.pos.line)).getD 0
noncomputable def nmOf (kind : Str → Option NameKind) (line : Nat) : PySem.Expr → Option Str
  | .Name id pos => if kind id == some .local && pos.line == line then some id else none
  | _ => none
noncomputable def isStar : PySem.Expr → Bool
  | .Starred .. => true
  | _ => false
theorem swapped_eq (l r : List PySem.Expr) (k1 k2 : Nat) (p1 p2 : Pos) (env : Env) : swappedStores [.Tuple l k1 p1] (.Tuple r k2 p2) env =
    (if (!(l.length == 2 || l.length == 3) || r.length != l.length || env.blockKind != .function) = true then pure none else
     if (r.any isStar) = true then pure none else
     if ((l.filterMap (nmOf env.kindOf (lineOf l))).length != l.length || (l.filterMap (nmOf env.kindOf (lineOf l))).eraseDups.length != (l.filterMap (nmOf env.kindOf (lineOf l))).length) = true then pure none else
     if (r.all (foldedForSure 8)) = true then pure none else
     if (r.all (constantsAlone 8)) = true then (unsupported "assign.tuple-of-constant-expressions:order-of-the-stores" >>= fun _ : Unit => pure (some (l.filterMap (nmOf env.kindOf (lineOf l))))) else pure (some (l.filterMap (nmOf env.kindOf (lineOf l))))) := by
  have e1 : nmOf env.kindOf (lineOf l) = (fun | .Name id pos => if env.kindOf id == some .local && pos.line == lineOf l then some id else none | _ => none) := by funext x; cases x <;> rfl
  have e2 : isStar = (fun | .Starred .. => true | _ => false) := by funext x; cases x <;> rfl
  rw [e1, e2]
  rfl
theorem back_eq (k : LC) (l r : List PySem.Expr) : backwards k l r =
    (match !(l.length == 2 || l.length == 3) || r.length != l.length with
    | true => some false
    | false => match r.any isStar with
      | true => none
      | false => match (l.filterMap (nmOf (k.names.lookup ·) (lineOf l))).length != l.length || (l.filterMap (nmOf (k.names.lookup ·) (lineOf l))).eraseDups.length != (l.filterMap (nmOf (k.names.lookup ·) (lineOf l))).length with
        | true => some false
        | false => match r.all (foldedForSure 8) with
          | true => some false
          | false => match r.all (constantsAlone 8) with
            | true => none
            | false => some true) := by
  have e1 : nmOf (k.names.lookup ·) (lineOf l) = (fun | .Name id pos => if k.names.lookup id == some .local && pos.line == lineOf l then some id else none | _ => none) := by funext x; cases x <;> rfl
  have e2 : isStar = (fun | .Starred .. => true | _ => false) := by funext x; cases x <;> rfl
  rw [e1, e2]
  rfl
theorem swapped_of {k : LC} {env : Env} (EF : EnvF env k) {l r : List PySem.Expr} {k1 k2 : Nat} {p1 p2 : Pos} {b : Bool} (h : backwards k l r = some b) :
    swappedStores [.Tuple l k1 p1] (.Tuple r k2 p2) env = pure (match b with | true => some (l.filterMap (nmOf (k.names.lookup ·) (lineOf l))) | false => none) ∧ (b = true → (l.filterMap (nmOf (k.names.lookup ·) (lineOf l))).length = l.length) := by
  have hk : env.kindOf = (k.names.lookup ·) := by funext n; show env.scope.names.lookup n = _; rw [← EF.names]
  have hb : env.blockKind = .function := by unfold Env.blockKind; rw [EF.el.kind]; rfl
  rw [back_eq] at h
  rw [swapped_eq, hk, hb]
  have z : ((ScopeKind.function : ScopeKind) != ScopeKind.function) = false := rfl
  rw [z, Bool.or_false]
  split at h
  · rename_i q; (injection h with h; subst h); rw [if_pos q]; exact ⟨rfl, fun q => by injection q⟩
  · rename_i q
    rw [if_neg (by rw [q]; exact Bool.false_ne_true)]
    split at h
    · injection h
    · rename_i q2
      rw [if_neg (by rw [q2]; exact Bool.false_ne_true)]
      split at h
      · rename_i q3; (injection h with h; subst h); rw [if_pos q3]; exact ⟨rfl, fun q => by injection q⟩
      · rename_i q3
        rw [if_neg (by rw [q3]; exact Bool.false_ne_true)]
        split at h
        · rename_i q4; (injection h with h; subst h); rw [if_pos q4]; exact ⟨rfl, fun q => by injection q⟩
        · rename_i q4
          rw [if_neg (by rw [q4]; exact Bool.false_ne_true)]
          split at h
          · injection h
          · rename_i q5
            (injection h with h; subst h)
            rw [if_neg (by rw [q5]; exact Bool.false_ne_true)]
            refine ⟨rfl, fun _ => ?_⟩
            have := (Bool.or_eq_false_iff.mp q3).1
            simpa using this
theorem filterMap_len {α β : Type} {f : α → Option β} : ∀ {l : List α}, (l.filterMap f).length ≤ l.length
  | [] => Nat.le_refl _
  | a :: l => by
    rw [List.filterMap_cons]
    split
    · exact Nat.le_succ_of_le filterMap_len
    · exact Nat.succ_le_succ filterMap_len
theorem names_of {X : LX} {k : LC} {line : Nat} : ∀ (ts : List LT) (l : List PySem.Expr), trTs X.F k ts l = true → (l.filterMap (nmOf (k.names.lookup ·) line)).length = l.length →
    ∃ ns : List (Nat × Str), ts = ns.map (fun q => LT.name q.1) ∧ l.filterMap (nmOf (k.names.lookup ·) line) = ns.map (·.2) ∧ ∀ q ∈ ns, k.vars[q.1]? = some q.2
  | [], [], _, _ => ⟨[], rfl, rfl, fun _ h => nomatch h⟩
  | t :: ts, l, h, hl => by
    rcases ts_cons h with ⟨v, n, p, l', rfl, rfl, h1, h2⟩ | ⟨v, i, n, q, e, p, l', rfl, rfl, h1, hpl, hi, h2⟩ | ⟨v, f, n, q, p, l', rfl, rfl, h1, h2⟩
    · rw [List.filterMap_cons] at hl
      split at hl
      · exfalso
        have := filterMap_len (f := nmOf (k.names.lookup ·) line) (l := l')
        rw [List.length_cons] at hl
        omega
      · rename_i b hb
        obtain ⟨ns, e1, e2, e3⟩ := names_of ts l' h2 (by simpa using hl)
        have hbn : b = n := by
          have hb' : (if (k.names.lookup n == some .local && p.line == line) = true then some n else none) = some b := hb
          split at hb'
          · (injection hb' with hb'; subst hb'); rfl
          · injection hb'
        subst hbn
        refine ⟨(v, b) :: ns, by rw [e1]; rfl, by rw [List.filterMap_cons, hb, e2]; rfl, fun q hq => ?_⟩
        rcases List.mem_cons.mp hq with rfl | hq
        · exact isVarL_of h1
        · exact e3 q hq
    · exfalso
      rw [List.filterMap_cons] at hl
      have : nmOf (k.names.lookup ·) line (.Subscript (.Name n q) e p) = none := rfl
      rw [this] at hl
      have := filterMap_len (f := nmOf (k.names.lookup ·) line) (l := l')
      dsimp only at hl
      rw [List.length_cons] at hl
      omega
    · exfalso
      rw [List.filterMap_cons] at hl
      have : nmOf (k.names.lookup ·) line (.Attribute (.Name n q) f.nm p) = none := rfl
      rw [this] at hl
      have := filterMap_len (f := nmOf (k.names.lookup ·) line) (l := l')
      dsimp only at hl
      rw [List.length_cons] at hl
      omega
  | [], _ :: _, h, _ => by cases ts_nil h
theorem paired_rev {α β : Type} {F : α → β → Prop} : ∀ {l₁ : List α} {l₂ : List β}, Paired F l₁ l₂ → Paired F l₁.reverse l₂.reverse
  | _, _, .nil => .nil
  | _, _, .cons r p => by rw [List.reverse_cons, List.reverse_cons]; exact (paired_rev p).snoc r
section
variable {X : LX} {A : Around} {cf : Nat → List LV → Option LV} (OK : LOk X) {d : Nat} (ao : AOk A (d + deep + 2)) (hcf : CallLOk X A cf)
theorem storeTs_len : ∀ {vs : List LV} {ts : List LT} {ρ ρ' : LLoc}, storeTs cf vs ts ρ = some ρ' → vs.length = ts.length
  | [], [], _, _, _ => rfl
  | x :: vs, .name v :: ts, ρ, ρ', h => by
    refine bind_el h fun _ _ h => ?_
    exact congrArg (· + 1) (storeTs_len h)
  | x :: vs, .sub v i :: ts, ρ, ρ', h => by
    refine bind_el h fun _ _ h => ?_
    refine bind_el h fun _ _ h => ?_
    refine bind_el h fun _ _ h => ?_
    refine bind_el h fun _ _ h => ?_
    exact congrArg (· + 1) (storeTs_len h)
  | x :: vs, .attr v f :: ts, ρ, ρ', h => by
    refine bind_el h fun _ _ h => ?_
    refine bind_el h fun _ _ h => ?_
    exact congrArg (· + 1) (storeTs_len h)
  | [], .name _ :: _, _, _, h => nomatch h
  | [], .attr _ _ :: _, _, _, h => nomatch h
  | [], .sub _ _ :: _, _, _, h => nomatch h
  | _ :: _, [], _, _, h => nomatch h
include OK ao hcf
theorem s_asgT (rev : Bool) (ts : List LT) (es : LEs) : GoodSt X A cf (.asgT rev ts es) := by
  intro k env ρ hs N₀ W t fl ρ' ht he EF hT s Q E' R h
  refine inv_trLS_asgT ht fun l0 k0 p0 r0 k1 p1 _ hx₀ ht => ?_
  subst hx₀
  refine and_el ht fun ht hbk => ?_
  refine and_el ht fun ht hne => ?_
  refine and_el ht fun ht hes => ?_
  refine and_el ht fun hts hst => ?_
  refine bind_el he fun vs hvs he => ?_
  obtain ⟨ρ₁, hp, e'⟩ := map_of he
  cases e'
  obtain ⟨hsw, hln⟩ := swapped_of EF (beq_iff_eq.mp hbk)
  obtain ⟨tl1, tl2⟩ := ts_len (X := X) (env := env) _ hts
  have hz : ts.length ≤ sizeLine := Nat.le_trans (Nat.le_of_ble_eq_true hne) (by rw [sizeLine_eq]; decide)
  have vlen : vs.length = ts.length := by
    cases rev with
    | false => exact storeTs_len hp
    | true => have := storeTs_len hp; simpa using this
  -- the tuple of the values
  have tup : ∀ {Q' : Value → Shared → Prop} {E'}, (∀ (ys : List Value) (s₂ : Shared) (a : Addr), Paired (RV (nn N₀ W) s₂.heap) vs ys → Kg s s₂ → IsTup s₂.heap a ys.toArray → Q' (.ref a) s₂) → wpAny (model X.x.prog X.x.w) A (eval (.Tuple r0 k1 p1) env) Q' E' s := fun hq =>
    wpAny_Tuple (sound_Ls OK ao hcf es k env ρ hs N₀ W _ vs _ hes hvs EF.el EF.ko R.len s _ _ R.rd fun ys s₁ p k₁ => ⟨by rw [← p.length, vlen]; exact hz,
      hq ys _ _ (p.mono fun u y q => (q.unfl hst).grow (Kg.push' (s := s₁)).grow) (k₁.trans .push') ⟨_, Heap.get?_push_size _ rfl, rfl, _, rfl⟩⟩)
  cases rev with
  | false =>
    refine Assign_Tuple (tup fun ys s₂ a p k₂ it => ?_) rfl hsw
    refine wpAny_assign_Tuple ao.hh it (by rw [tl1, List.size_toArray, ← p.length, vlen]) tl2 fun h' ex => ?_
    have k₃ := k₂.trans (ext_kg ex)
    exact store_ts OK ao hcf EF hT ts _ vs _ ρ _ W _ _ _ hts hp (R.grow k₃.grow) (p.mono fun u y q => q.grow (ext_kg ex).grow) fun s' b => h _ _ s' ((Aft.of_kg R k₃).trans b) rfl
  | true =>
    obtain ⟨ns, e1, e2, e3⟩ := names_of ts _ hts (hln rfl)
    subst e1
    dsimp only at hsw
    rw [e2] at hsw
    refine Assign_Tuple_swapped (tup fun ys s₂ a p k₂ it => ?_) rfl hsw
    have hnl : (ns.map (·.2)).length = ys.toArray.size := by rw [List.length_map, List.size_toArray, ← p.length, vlen, List.length_map]
    rw [hnl]
    refine wpAny_unpackItems_tuple ao.hh it fun h' ex => ?_
    have k₃ := k₂.trans (ext_kg ex)
    have em : (ns.map (·.2)).reverse.map (fun n => bindName env n) = ns.reverse.map (fun q => bindName env q.2) := by rw [← List.map_reverse, List.map_map]; rfl
    rw [em]
    exact store_ns OK ao hcf EF ns.reverse vs.reverse _ ρ _ W _ _ _ (fun q hq => e3 q (List.mem_reverse.mp hq)) (by rw [List.map_reverse]; exact hp) (R.grow k₃.grow) (paired_rev (p.mono fun u y q => q.grow (ext_kg ex).grow)) fun s' b => h _ _ s' ((Aft.of_kg R k₃).trans b) rfl
end
end Mine

end
section
open PySem PySem.W PyProof.Rows
set_option maxRecDepth 100000
set_option maxHeartbeats 1000000
set_option linter.unusedSimpArgs false
set_option linter.unusedVariables false
set_option linter.unusedSectionVars false
namespace Mine
section
variable {X : LX} {A : Around} {cf : Nat → List LV → Option LV} (OK : LOk X) {d : Nat} (ao : AOk A (d + deep + 2)) (hcf : CallLOk X A cf)
include OK ao hcf
mutual
theorem sound_St : ∀ st : LS, GoodSt X A cf st
  | .asg v e => s_asg OK ao hcf v e
  | .newl v e => s_newl OK ao hcf v e
  | .asgT rev ts es => s_asgT OK ao hcf rev ts es
  | .sub v i e => s_sub OK ao hcf v i e
  | .slp v lo hi e => s_slp OK ao hcf v lo hi e
  | .step v m => s_step OK ao v m
  | .ev v e m6 m7 m0 => s_ev OK ao hcf v m6 m7 m0 e
  | .mv v w => s_mv OK ao hcf v w
  | .setAt v f e => s_setAt OK ao hcf v f e
  | .mk v mv e => s_mk OK ao hcf v mv e
  | .ite t a b => s_ite OK ao hcf (sound_Sts a) (sound_Sts b)
  | .for tg src b => s_for OK ao hcf (sound_Sts b)
  | .forE vs e b => s_forE OK ao hcf (sound_Sts b)
  | .brk => s_brk
  | .ret e => s_ret OK ao hcf e
theorem sound_Sts : ∀ st : LSs, GoodSts X A cf st
  | .nil => ss_nil
  | .cons s r => ss_cons (sound_St s) (sound_Sts r)
end
end
end Mine

end
section
open PySem PySem.W PyProof.Rows
set_option maxRecDepth 100000
set_option maxHeartbeats 1000000
set_option linter.unusedSimpArgs false
set_option linter.unusedVariables false
set_option linter.unusedSectionVars false
namespace Mine
structure FDok (X : LX) (fdt : FuncData) (fd : FnD) : Prop where
  body : ∃ b, fdt.body = .stmts b ∧ trLSs X.x.c X.F ⟨fdt.scope.names, fd.vars⟩ fd.body b = true
  kind : fdt.scope.kind = .function
  gen : fdt.scope.isGenerator = false
  co : fdt.scope.isCoroutine = false
  clo : fdt.closure = []
  glob : fdt.globals = mainGlobals
  blt : fdt.builtins = builtinsNs
  bind : ∀ vals : List Value, vals.length = fd.np → bindArgs fdt ⟨vals, []⟩ = pure ((fd.vars.take fd.np).zip vals)
  nodup : fd.vars.Nodup
  nodbg : ∀ v ∈ fd.vars, (v == ("__debug__" : Str)) = false
  npLe : fd.np ≤ fd.vars.length
  kinds : ∀ n ∈ fd.vars, fdt.scope.names.lookup n = some .local ∨ fdt.scope.names.lookup n = some .cell
theorem bindL_miss {kindOf : Str → Option NameKind} {n : Str} : ∀ (l : List (Str × Value)) (m : Str → Option Value), n ∉ l.map (·.1) → bindL kindOf l m n = m n
  | [], m, _ => rfl
  | (a, v) :: r, m, h => by
    rw [List.map_cons, List.mem_cons, not_or] at h
    unfold bindL
    rw [bindL_miss r _ h.2]
    split
    · show (if n = a then some v else m n) = m n; rw [if_neg h.1]
    · rfl
theorem bindC_miss {kindOf : Str → Option NameKind} {n : Str} : ∀ (l : List (Str × Value)) (m : Str → Option Value), n ∉ l.map (·.1) → bindC kindOf l m n = m n
  | [], m, _ => rfl
  | (a, v) :: r, m, h => by
    rw [List.map_cons, List.mem_cons, not_or] at h
    unfold bindC
    rw [bindC_miss r _ h.2]
    split
    · rfl
    · show (if n = a then some v else m n) = m n; rw [if_neg h.1]
theorem bind_hit {kindOf : Str → Option NameKind} {n : Str} {v : Value} : ∀ (l : List (Str × Value)) (m cm : Str → Option Value), (l.map (·.1)).Nodup → (n, v) ∈ l → (kindOf n = some .local → bindL kindOf l m n = some v) ∧ (kindOf n ≠ some .local → bindC kindOf l cm n = some v)
  | (a, u) :: r, m, cm, nd, h => by
    rw [List.map_cons, List.nodup_cons] at nd
    rcases List.mem_cons.mp h with e | h
    · cases e
      constructor
      · intro k
        unfold bindL
        rw [if_pos k, bindL_miss r _ nd.1]
        exact if_pos rfl
      · intro k
        unfold bindC
        rw [if_neg k, bindC_miss r _ nd.1]
        exact if_pos rfl
    · unfold bindL bindC
      exact bind_hit r _ _ nd.2 h
section
variable {X : LX} (OK : LOk X)
noncomputable def hideT (h : Heap) : Addr → Option Obj := fun b => (h.get? b).bind fun o => if tabb o = true then none else some o
theorem hideT_get {h : Heap} {b : Addr} {o : Obj} (e : h.get? b = some o) (t : tabb o = false) : hideT h b = some o := by
  unfold hideT; rw [e, Option.bind_some, if_neg (by rw [t]; exact Bool.false_ne_true)]
theorem of_hideT {h : Heap} {b : Addr} {o : Obj} (e : hideT h b = some o) : h.get? b = some o ∧ tabb o = false := by
  obtain ⟨o', e', q⟩ := bind_of e
  cases t : tabb o' with
  | true => rw [if_pos t] at q; injection q
  | false => rw [if_neg (by rw [t]; exact Bool.false_ne_true)] at q; (injection q with q; subst q); exact ⟨e', t⟩
theorem hideT_none {h : Heap} {b : Addr} (e : h.get? b = none) : hideT h b = none := by unfold hideT; rw [e]; rfl
noncomputable def Kt (s s' : Shared) : Prop := ∃ h' t', s' = { s with heap := h', toks := t' } ∧ (∀ b o, s.heap.get? b = some o → tabb o = false → h'.get? b = some o) ∧ Live s.heap h'
include OK in
theorem run_fn {A : Around} {cf : Nat → List LV → Option LV} {d : Nat} (ao : AOk A (d + deep + 3)) (hcf : ∀ A' : Around, AOk A' (d + deep + 2) → CallLOk X A' cf) {fdt : FuncData} {fd : FnD} (S : FDok X fdt fd) {s : Shared} {a : Addr} {o : Obj} (ho : s.heap.get? a = some o) (hd : o.data = .func fdt) (hlim : s.heap.NoLimit) (hcd : s.heap.CodeRec fdt.code fdt.qualname)
    {args : List LV} {vals : List Value} {N : Addr → Prop} {fl : LFl} {ρ' : LLoc} (hlen : args.length = fd.np) (hstab : args.all stable = true) (he : exLs X.x.c X.im X.fuel cf fd.body (args.map some ++ List.replicate (fd.vars.length - fd.np) none) = some (fl, ρ')) (hfl : fl ≠ .brk)
    (hb : ∀ b o, X.x.h₀.get? b = some o → s.heap.get? b = some o) (ln : Lists N s.heap) (p : Paired (RV N s.heap) args vals) {R : Result → Shared → Prop}
    (hb0 : ∀ b o, X.x.h₀.get? b = some o → tabb o = false) (htab : TabInv s.heap)
    (post : ∀ y s', (match fl with | .ret v => RV N s'.heap v y | _ => y = .none) → Kt s s' → R (.ok (.ret y)) s') : codeAny (model X.x.prog X.x.w) A (.call (.ref a) ⟨vals, []⟩) R s := by
  obtain ⟨b, hbody, htr⟩ := S.body
  have vlen : vals.length = fd.np := by rw [← p.length]; exact hlen
  have zmap : ((fd.vars.take fd.np).zip vals).map (·.1) = fd.vars.take fd.np := List.map_fst_zip (by rw [vlen, List.length_take]; exact Nat.min_le_left _ _)
  have znd : (((fd.vars.take fd.np).zip vals).map (·.1)).Nodup := by rw [zmap]; exact (List.take_sublist _ _).nodup S.nodup
  have kc : ∀ n ∈ fd.vars, ∀ L, fdt.scope.names.lookup n = some .local ∨ (fdt.scope.names.lookup n = some .cell ∧ ((cellsFrom L fdt.scope.names []).lookup n).isSome = true) := fun n hn L => by
    rcases S.kinds n hn with q | q
    · exact .inl q
    · exact .inr ⟨q, cellsFrom_some _ _ _ (.inl q)⟩
  refine codeAny_call_cells (by have := ao.dp; omega) ho hd hlim hcd hbody (S.bind vals vlen) S.clo (fun x hx => kc _ (List.mem_of_mem_take (List.of_mem_zip hx).1) _) (fun s₁ I => ?_) S.co S.gen S.kind
  have EF : EnvF (callEnvC fdt s.heap.objs.size a) ⟨fdt.scope.names, fd.vars⟩ := by
    refine ⟨⟨S.kind, S.glob, S.blt, S.nodbg⟩, ⟨fun n h => h, fun n h => ⟨h, Option.isSome_iff_exists.mp (cellsFrom_some _ _ _ (.inl h))⟩⟩, S.nodup, I.apart, fun n hn => ?_, rfl⟩
    rcases kc n hn (s.heap.objs.size + 1) with q | ⟨q, q'⟩
    · exact .inl q
    · exact .inr ⟨q, Option.isSome_iff_exists.mp q'⟩
  have ao' : AOk (A.deeper (callEnvC fdt s.heap.objs.size a)) (d + deep + 2) := AOk.deeper (d := d + deep + 2) ao
  have gr := I.toInCall.keep
  have fresh : ∀ b, s.heap.objs.size ≤ b → s.heap.get? b = none := fun b hb => by
    cases q : s.heap.get? b with
    | none => rfl
    | some o => exact absurd (Heap.lt_size q) (Nat.not_lt.mpr hb)
  have FR : FrR X (hideT s.heap) N (callEnvC fdt s.heap.objs.size a) fd.vars (args.map some ++ List.replicate (fd.vars.length - fd.np) none) (fun _ => False) s₁.heap := by
    have atA : ∀ i v, LLoc.at (args.map some ++ List.replicate (fd.vars.length - fd.np) none) i = some v → args[i]? = some v := fun i v q => by
      unfold LLoc.at at q
      by_cases z : i < args.length
      · rw [List.getElem?_append_left (by rw [List.length_map]; exact z), List.getElem?_map] at q
        cases w : args[i]? with
        | none => rw [w] at q; injection q
        | some u => rw [w] at q; simpa using q
      · rw [List.getElem?_append_right (by rw [List.length_map]; omega), List.getElem?_replicate] at q
        split at q <;> injection q
    have stA : ∀ i v, LLoc.at (args.map some ++ List.replicate (fd.vars.length - fd.np) none) i = some v → stable v = true := fun i v q => List.all_eq_true.mp hstab v (List.mem_of_getElem? (atA i v q))
    refine ⟨⟨fun b o e => gr b o (hb b o e), fun b w => ?_, fun i n v hi hv => ?_, fun i n σ mv hi hv => ?_, htab.keep fun b o _ e _ => gr b o e⟩, fun b o e => hideT_get (hb b o e) (hb0 b o e), fun b o e => gr b o (of_hideT e).1, fun _ w => w.elim, hideT_none (fresh _ (Nat.le_refl _)), ⟨_, I.toInCall.ns⟩, fun n c hc => ⟨hideT_none (fresh _ (Nat.le_trans I.toInCall.fresh (Nat.le_of_lt (I.above n c (mem_of_lookup hc))))), _, I.cell n c hc⟩, fun i j ni nj u v a h1 h2 h3 _ o1 => ?_, fun i j ni nj σ τ m n I J D _ _ h3 => ?_, ?_, fun b w q => by obtain ⟨its, o, _, e, _, _, d⟩ := ln b w; rw [hideT_get e (tabb_d fun ps z => by rw [d] at z; injection z)] at q; injection q⟩
    · rcases w with w | w
      · obtain ⟨its, l⟩ := ln b w; exact ⟨its, l.keeps gr⟩
      · exact w.elim
    · have hargs := atA i v hv
      have hil : i < fd.np := by rw [← hlen]; exact (List.getElem?_eq_some_iff.mp hargs).1
      have pat : ∀ {l₁ : List LV} {l₂ : List Value}, Paired (RV N s.heap) l₁ l₂ → ∀ (i : Nat) (v : LV), l₁[i]? = some v → ∃ y, l₂[i]? = some y ∧ RV N s.heap v y := by
        intro l₁ l₂ p
        induction p with
        | nil => intro i v h; simp at h
        | cons r _ ih =>
          intro i v h
          cases i with
          | zero => simp at h; subst h; exact ⟨_, rfl, r⟩
          | succ i => simpa using ih i v (by simpa using h)
      obtain ⟨y, hy, ry⟩ := pat p i v hargs
      have hmem : (n, y) ∈ (fd.vars.take fd.np).zip vals := by
        refine List.mem_of_getElem? (i := i) ?_
        rw [List.getElem?_zip_eq_some]
        exact ⟨by rw [List.getElem?_take_of_lt hil]; exact hi, hy⟩
      obtain ⟨hL, hC⟩ := bind_hit (kindOf := (callEnvC fdt s.heap.objs.size a).kindOf) _ (fun _ => none) (fun _ => none) znd hmem
      refine ⟨y, ?_, RV.var ((ry.weak fun b _ q => by rcases q with q | q; exact q; exact q.elim).grow gr)⟩
      rcases EF.kinds n (List.mem_of_getElem? hi) with q | ⟨q, c, hc⟩
      · exact .inl ⟨q, _, I.toInCall.ns, hL q⟩
      · have ic := I.cell n c hc
        rw [hC (by rw [q]; decide)] at ic
        exact .inr ⟨q, c, hc, ic⟩
    · have := stA i _ hv; injection this
    · have := stA i _ h3; cases u <;> first | exact absurd o1 Bool.false_ne_true | exact absurd this Bool.false_ne_true
    · have := stA i _ h3; injection this
    · have := S.npLe
      simp only [List.length_append, List.length_map, List.length_replicate]
      omega
  refine sound_Sts OK ao' (hcf _ ao') fd.body ⟨fdt.scope.names, fd.vars⟩ _ _ _ N _ b fl ρ' htr he EF (fun b o e => (of_hideT e).2) s₁ _ _ FR fun f W' s' af r => ?_
  have kg : Kt s s' := by
    obtain ⟨h1, t1, rfl⟩ := I.toInCall.same
    have lv := af.live
    obtain ⟨h2, t2, rfl⟩ := af.ks
    exact ⟨h2, t2, rfl, fun b o e t => af.fr.hb b o (hideT_get e t), fun b o e => lv b o (gr b o e)⟩
  cases fl with
  | next => obtain rfl := r; exact post _ s' rfl kg
  | brk => exact absurd rfl hfl
  | ret v =>
    obtain ⟨y, rfl, ry⟩ := r
    exact post _ s' ry kg
structure FnsOk (X : LX) : Prop where
  nil : X.F = []
  lim : X.x.h₀.NoLimit
  h0T : ∀ b o, X.x.h₀.get? b = some o → tabb o = false
theorem sound_callL (FO : FnsOk X) (j : Nat) (A : Around) : CallLOk X A (callL X.x.c X.im X.fuel X.F j) := fun f args v h => by
  rw [FO.nil] at h
  cases j <;> exact nomatch h
end
end Mine

end
section
open PySem PySem.W PyProof.Rows
set_option maxRecDepth 100000
set_option maxHeartbeats 1000000
set_option linter.unusedSimpArgs false
set_option linter.unusedVariables false
namespace Mine
noncomputable def fdB (K : Frag) (c : Cls) (md : MethD) (fd : FuncData) : Bool :=
  (match fd.body with | .stmts b => trSs c md.vars md.body b | _ => false) && fd.scope.kind == .function && !fd.scope.isGenerator && !fd.scope.isCoroutine && fd.scope.names.all (fun y => y.2 != .cell) && md.vars.all (fun v => fd.scope.names.lookup v == some .local) && codeIn K fd.code fd.qualname && fd.closure.isEmpty
noncomputable def isFnO (o : Option Obj) (f : FuncData → Bool) : Bool := match o with
  | some ⟨.type t, none, .func fd, sl⟩ => t == "function" && sl.size == 0 && f fd
  | _ => false
theorem isFnO_of {o : Option Obj} {f : FuncData → Bool} (h : isFnO o f = true) : ∃ fd, o = some ⟨.type "function", none, .func fd, #[]⟩ ∧ f fd = true := by
  unfold isFnO at h
  split at h
  · rename_i t fd sl
    simp only [Bool.and_eq_true, beq_iff_eq] at h
    obtain ⟨⟨rfl, h2⟩, h3⟩ := h
    exact ⟨fd, by rw [Array.eq_empty_of_size_eq_zero h2], h3⟩
  · injection h
noncomputable def nmB (n : Str) : Bool := !copiedNames.contains n && Fld.all.all fun f => n != f.nm
theorem nmB_of {n : Str} (h : nmB n = true) : copiedNames.contains n = false ∧ ∀ f : Fld, n ≠ f.nm := by
  unfold nmB at h
  simp only [Bool.and_eq_true, Bool.not_eq_true', List.all_eq_true, bne_iff_ne] at h
  exact ⟨h.1, fun f => h.2 f (Fld.mem_all f)⟩
noncomputable def varsB (md : MethD) : Bool := decide md.vars.Nodup && md.vars.all (fun v => !(v == ("__debug__" : Str))) && decide (md.np ≤ md.vars.length) && md.vars[0]? == some ("self" : Str)
noncomputable def methB (plain : Bool) (K : Frag) (C : Addr) (c : Cls) (fnA : Nat → Addr) (m : Nat) (md : MethD) : Bool :=
  findIn K (.ref C) md.nm == some (some (.ref (fnA m))) && nmB md.nm && varsB md && isFnO (K.lookup (fnA m)) (fun fd => fdB K c md fd && (!plain || plainArgs fd (md.vars.take md.np)))
theorem methB_of {x : Cx} {m : Nat} {md : MethD} {plain : Bool} (h : methB plain x.K x.C x.c x.fnA m md = true)
    (hb : ∀ fd, x.K.lookup (x.fnA m) = some ⟨.type "function", none, .func fd, #[]⟩ → plain = true ∨ ∀ (s : Shared) (vals : List Value), x.K.In s.heap → vals.length = md.np → BindsTo s fd ⟨vals, []⟩ ((md.vars.take md.np).zip vals)) : MethOk x m md := by
  unfold methB at h
  simp only [Bool.and_eq_true, beq_iff_eq] at h
  obtain ⟨⟨⟨h1, h2⟩, h3⟩, h4⟩ := h
  obtain ⟨n1, n2⟩ := nmB_of h2
  unfold varsB at h3
  simp only [Bool.and_eq_true, decide_eq_true_eq, List.all_eq_true, Bool.not_eq_true', beq_iff_eq] at h3
  obtain ⟨⟨⟨v1, v2⟩, v3⟩, v4⟩ := h3
  obtain ⟨fd, e, hf⟩ := isFnO_of h4
  refine and_el hf fun f1 f2 => ?_
  unfold fdB at f1
  simp only [Bool.and_eq_true, Bool.not_eq_true', beq_iff_eq, List.all_eq_true, bne_iff_ne, List.isEmpty_iff] at f1
  obtain ⟨⟨⟨⟨⟨⟨⟨g1, g2⟩, g3⟩, g4⟩, g5⟩, g6⟩, g7⟩, g8⟩ := f1
  have body : ∃ b, fd.body = .stmts b ∧ trSs x.c md.vars md.body b = true := by
    split at g1
    · rename_i b hb; exact ⟨b, hb, g1⟩
    · injection g1
  obtain ⟨b, hb1, hb2⟩ := body
  refine ⟨h1, n2, n1, v1, v2, v3, v4, fd, b, e, hb1, .inl ⟨hb2, g5, g6, g8, fun s vals K hl => ?_⟩, g2, g3, g4, g7⟩
  rcases hb fd e with q | q
  · subst q
    simp only [Bool.not_true, Bool.false_or] at f2
    exact BindsTo.of_eq (bind_plain f2 ((List.take_sublist _ _).nodup v1) (by rw [hl, List.length_take]; omega))
  · exact q s vals K hl
theorem methW_of {x : Cx} {m : Nat} {md : MethD} {fd : FuncData} {b : List Stmt} {mB kW : Nat} {mdB : MethD} {c : Addr} {lp : Arguments} {lb : PySem.Expr} {ls : Scope} (h1 : findIn x.K (.ref x.C) md.nm = some (some (.ref (x.fnA m)))) (h2 : nmB md.nm = true) (h3 : varsB md = true)
    (e : x.K.lookup (x.fnA m) = some ⟨.type "function", none, .func fd, #[]⟩) (hb : fd.body = .stmts b) (k1 : fd.scope.kind = .function) (k2 : fd.scope.isGenerator = false) (k3 : fd.scope.isCoroutine = false) (k4 : codeIn x.K fd.code fd.qualname = true) (W : WrapM x md fd b mB kW mdB c lp lb ls) : MethOk x m md := by
  obtain ⟨n1, n2⟩ := nmB_of h2
  unfold varsB at h3
  simp only [Bool.and_eq_true, decide_eq_true_eq, List.all_eq_true, Bool.not_eq_true', beq_iff_eq] at h3
  obtain ⟨⟨⟨v1, v2⟩, v3⟩, v4⟩ := h3
  exact ⟨h1, n2, n1, v1, v2, v3, v4, fd, b, e, hb, .inr ⟨_, _, _, _, _, _, _, W⟩, k1, k2, k3, k4⟩
noncomputable def cstB (K : Frag) (C : Addr) (q : Str × Int) : Bool := (match findIn K (.ref C) q.1 with | some (some (.int i _)) => i == q.2 | _ => false) && nmB q.1
noncomputable def intsB : List Value → List Int → Bool
  | [], [] => true
  | .int i _ :: vs, n :: ns => i == n && intsB vs ns
  | _, _ => false
theorem intsB_of : ∀ {vs : List Value} {ns : List Int}, intsB vs ns = true → IntsAre vs ns
  | [], [], _ => .nil
  | .int i t :: vs, n :: ns, h => by
    unfold intsB at h
    refine and_el h fun h1 h2 => ?_
    obtain rfl := beq_iff_eq.mp h1
    exact .cons _ _ (intsB_of h2)
  | [], _ :: _, h => by unfold intsB at h; injection h
  | .int _ _ :: _, [], h => by unfold intsB at h; injection h
noncomputable def isLstO (o : Option Obj) (f : List Value → Bool) : Bool := match o with
  | some ⟨.type t, none, .seq vs n, sl⟩ => t == "list" && n == 0 && sl.size == 0 && f vs.toList
  | _ => false
theorem isLstO_of {o : Option Obj} {f : List Value → Bool} (h : isLstO o f = true) : ∃ vs : List Value, o = some { cls := .type "list", data := .seq vs.toArray } ∧ f vs = true := by
  unfold isLstO at h
  split at h
  · rename_i t vs n sl
    simp only [Bool.and_eq_true, beq_iff_eq] at h
    obtain ⟨⟨⟨rfl, rfl⟩, h2⟩, h3⟩ := h
    exact ⟨vs.toList, by rw [Array.eq_empty_of_size_eq_zero h2, Array.toArray_toList], h3⟩
  · injection h
noncomputable def tabB (K : Frag) (C : Addr) (a : Addr) (q : Str × List Int) : Bool := findIn K (.ref C) q.1 == some (some (.ref a)) && nmB q.1 && isLstO (K.lookup a) (fun vs => intsB vs q.2) && decide (q.2.length < 2 ^ 62)
noncomputable def insB (K : Frag) (C : Addr) (c : Cls) (fnA : Nat → Addr) (a : Addr) : Bool := findIn K (.ref C) c.instrN == some (some (.ref a)) && nmB c.instrN && isLstO (K.lookup a) (fun vs => vs == c.instr.map fun m => Value.ref (fnA m)) && decide (c.instr.length < 2 ^ 62)
noncomputable def baseB (K : Frag) (C : Addr) : Bool := findIn K (.ref C) "__getattribute__" == some (some (.builtin "object.__getattribute__")) && findIn K (.ref C) "__getattr__" == some none && findIn K (.ref C) "__setattr__" == some (some (.builtin "object.__setattr__")) && hasDictIn K C && plainOver K C && Fld.all.all fun f => findIn K (.ref C) f.nm == some none
structure KLooks (K : Frag) (C : Addr) (c : Cls) (fnA tabA : Nat → Addr) (insA : Addr) : Prop where
  base : baseB K C = true
  cst : c.csts.all (cstB K C) = true
  tab : ∀ k q, c.tabs[k]? = some q → tabB K C (tabA k) q = true
  ins : insB K C c fnA insA = true
theorem ok_of {x : Cx} (h : KLooks x.K x.C x.c x.fnA x.tabA x.insA) (hm : ∀ m md, x.c.P[m]? = some md → MethOk x m md) (X : x.K.In x.h₀) (lim : x.h₀.NoLimit) (nD : x.h₀.get? x.D = none) (nL : x.h₀.get? x.L = none) (DL : x.D ≠ x.L) : Ok x := by
  have hb := h.base
  unfold baseB at hb
  simp only [Bool.and_eq_true, beq_iff_eq, List.all_eq_true] at hb
  obtain ⟨⟨⟨⟨⟨b1, b2⟩, b3⟩, b4⟩, b5⟩, b6⟩ := hb
  refine ⟨X, lim, nD, nL, DL, b1, b2, b3, b4, b5, fun f => b6 f (Fld.mem_all f), fun k n v e => ?_, fun k n l e => ?_, ?_, hm⟩
  · have := List.all_eq_true.mp h.cst (n, v) (List.mem_of_getElem? e)
    unfold cstB at this
    refine and_el this fun q1 q2 => ?_
    obtain ⟨n1, n2⟩ := nmB_of q2
    split at q1
    · rename_i i t hf
      obtain rfl := beq_iff_eq.mp q1
      exact ⟨⟨t, hf⟩, n1, n2⟩
    · injection q1
  · have := h.tab k (n, l) e
    unfold tabB at this
    simp only [Bool.and_eq_true, beq_iff_eq] at this
    obtain ⟨⟨⟨q1, q2⟩, q3⟩, _⟩ := this
    obtain ⟨n1, n2⟩ := nmB_of q2
    obtain ⟨vs, e1, e2⟩ := isLstO_of q3
    exact ⟨q1, n1, n2, vs, e1, intsB_of e2⟩
  · have := h.ins
    unfold insB at this
    simp only [Bool.and_eq_true, beq_iff_eq] at this
    obtain ⟨⟨⟨q1, q2⟩, q3⟩, _⟩ := this
    obtain ⟨n1, n2⟩ := nmB_of q2
    obtain ⟨vs, e1, e2⟩ := isLstO_of q3
    refine ⟨q1, n1, n2, ?_⟩
    rw [e1, beq_iff_eq.mp e2]
theorem small_of {x : Cx} (h : KLooks x.K x.C x.c x.fnA x.tabA x.insA) : Small x := by
  refine ⟨fun k n l e => ?_, ?_⟩
  · have := h.tab k (n, l) e
    unfold tabB at this
    simp only [Bool.and_eq_true, decide_eq_true_eq] at this
    exact this.2
  · have := h.ins
    unfold insB at this
    simp only [Bool.and_eq_true, decide_eq_true_eq] at this
    exact this.2
noncomputable def strKeysB (es : List DictEntry) : Bool := es.all fun e => match e.key with | .str _ _ => true | _ => false
theorem ns_of_obj {h : Heap} {a : Addr} {c : Value} {d : Option Addr} {es : List DictEntry} {n : Nat} {sl : Array (Option Value)} (e : h.get? a = some ⟨c, d, .dict es.toArray n, sl⟩) (hk : strKeysB es = true) : h.Ns a (fun x => nsFind es.toArray x) := by
  refine ⟨_, es.toArray, n, e, rfl, fun en hen => ?_, fun _ => rfl⟩
  have := List.all_eq_true.mp hk en (by simpa using hen)
  split at this
  · rename_i s t hs; exact ⟨s, t, hs⟩
  · injection this
noncomputable def fnVarsB (fd : FnD) (fdt : FuncData) : Bool := decide fd.vars.Nodup && fd.vars.all (fun v => !(v == ("__debug__" : Str))) && decide (fd.np ≤ fd.vars.length) && fd.vars.all (fun v => fdt.scope.names.lookup v == some .local || fdt.scope.names.lookup v == some .cell) && plainArgs fdt (fd.vars.take fd.np)
noncomputable def fnB (c : Cls) (F : List FnD) (fd : FnD) (fdt : FuncData) : Bool :=
  (match fdt.body with | .stmts b => trLSs c F ⟨fdt.scope.names, fd.vars⟩ fd.body b | _ => false) && fdt.scope.kind == .function && !fdt.scope.isGenerator && !fdt.scope.isCoroutine && fdt.closure.isEmpty && fdt.globals == mainGlobals && fdt.builtins == builtinsNs && fnVarsB fd fdt
theorem fnB_of {X : LX} {fd : FnD} {fdt : FuncData} (h : fnB X.x.c X.F fd fdt = true) : FDok X fdt fd := by
  unfold fnB fnVarsB at h
  simp only [Bool.and_eq_true, Bool.not_eq_true', beq_iff_eq, List.isEmpty_iff, List.all_eq_true, decide_eq_true_eq, Bool.or_eq_true] at h
  obtain ⟨⟨⟨⟨⟨⟨⟨h1, h2⟩, h3⟩, h4⟩, h5⟩, h6⟩, h7⟩, ⟨⟨⟨⟨v1, v2⟩, v3⟩, v4⟩, v5⟩⟩ := h
  refine ⟨?_, h2, h3, h4, h5, h6, h7, fun vals hl => bind_plain v5 ((List.take_sublist _ _).nodup v1) (by rw [hl, List.length_take]; omega), v1, v2, v3, v4⟩
  split at h1
  · rename_i b hb; exact ⟨b, hb, h1⟩
  · injection h1
theorem tabb_n {o : Obj} (h : tabb o = true) : o.cls = .none := by
  unfold tabb at h
  split at h
  · rename_i e _; exact e
  · injection h
theorem oldK_of {h h' : Heap} (g : ∀ b o, h.get? b = some o → tabb o = false → h'.get? b = some o) (lv : Live h h') (ct : ∀ o, h.get? tabP = some o → isCodeTable h tabP) : OldK h h' := by
  refine ⟨fun b o e => ?_, fun b o e => by obtain ⟨o', e', _⟩ := lv b o e; exact ⟨o', e'⟩⟩
  cases t : tabb o with
  | false => exact .inl (g b o e t)
  | true =>
    obtain ⟨o', e', tg⟩ := lv b o e
    obtain ⟨vs, more, d, rfl, q⟩ := tg t
    rcases q with q | q
    · subst q; exact .inr (.inl ⟨ct o e, tabb_n t, vs, more, d, e'⟩)
    · subst q
      rw [Array.append_empty, ← d] at e'
      exact .inl e'
theorem walk_of_law {l : OpenLaw} (hm : l.most = some 63) (hbn : l.bound = none) {q : Program} {loose : List Str} {XP : (Str → Option Value) → Heap → Prop} {YP : World → Heap → Prop} {d : DefRec} {kwd : List (Str × PySem.Expr)}
    (core : ∀ (w : World) (s₀ s₁ : Shared) (mg mb : Str → Option Value), Ground q loose [] XP w s₀ mg mb s₁.heap → YP w s₁.heap → ∀ (a : Addr) (o : Obj) (pm cd doc dV kV : Value), s₁.heap.get? a = some o → o.data = .func { PySem.Calls.docDef d.name d.params d.body d.scope pm cd doc with defaults := dV, kwdefaults := kV } →
      s₁.heap.CodeRec cd d.name → Dflts mg s₁.heap d.params kwd dV kV → ∀ (ns : List Int) (b : Addr) (its : Array Value), ns.length ≤ 63 → s₁.heap.IsList b its → IntsAre its.toList ns →
      ∀ R : Result → Shared → Prop, (∀ s', Kt s₁ s' → (∀ o, s₁.heap.get? tabP = some o → isCodeTable s₁.heap tabP) → R (.ok (.ret (.bool true))) s') → codeAny (model l.prog w) callerA (.call (.ref a) ⟨[.ref b], []⟩) R s₁) :
    WalkO q loose XP YP l.row.toRowW d kwd (fun f vs => PySem.call f vs) := by
  intro w s₀ s₁ mg mb G Y a o pm cd doc dV kV ho hd hcd hD hmg hg args vals as hpre hlay hrd hwl hlo
  obtain ⟨h1, h2⟩ := pre_splitW hpre
  obtain ⟨d0, r0, rfl, h3, h4⟩ := hasAllW_cons h1
  cases r0 with
  | cons _ _ => simp [WShape.hasAll] at h4
  | nil =>
    obtain ⟨xs, rfl, h5⟩ := hasW_list h3
    obtain ⟨ns, rfl⟩ := items_int h5
    have hlen : ns.length ≤ 63 := by
      have hp : l.row.toRowW.pre = .and (.not (.lt (.lit (.int 63)) (.len (.arg 0)))) (.lit (.bool true)) := by
        show l.pre = _
        unfold OpenLaw.pre
        rw [hm, hbn]
        rfl
      rw [hp] at h2
      obtain ⟨h6, _⟩ := holds_andW h2
      have hv := w_not (R := l.row.toRowW.records) (e := { args := [.list (ns.map .int)] }) (w_lt (a := .lit (.int 63)) (b := .len (.arg 0)) w_lit (w_len_list (w_arg rfl)))
      unfold WTm.holds at h6
      rw [hv] at h6
      split at h6
      · rename_i q
        have q1 := WData.bool.inj (Option.some.inj q)
        simp only [Bool.not_eq_true', decide_eq_false_iff_not, List.length_map] at q1
        omega
      · injection h6
    cases hrd with
    | cons r1 rr =>
      cases rr
      cases r1 with
      | list ho' hc' hd' ra =>
        rename_i b ob vs n' as'
        have hints : ∀ (vs : List Value) (ns : List Int) (as : List Addr), ReadsAllW l.row.toRowW.records (classAt s₀.heap) s₁.heap vs (ns.map .int) as → IntsAre vs ns := by
          intro vs ns
          induction ns generalizing vs with
          | nil => intro as h; cases h; exact .nil
          | cons n ns ih =>
            intro as h
            cases h with
            | cons r h => cases r; exact .cons _ _ (ih _ _ h)
        refine wpAny_call (core w s₀ s₁ mg mb G Y a o pm cd doc dV kV ho hd hcd hD ns b vs hlen ⟨ob, ho', hc', n', hd'⟩ (hints _ _ _ ra) _ fun s' k ct => ?_)
        refine ⟨.inl ⟨.bool true, .bool true, [], rfl, fun cls => rfl, .bool true, ?_, fun _ => ⟨List.nodup_nil, fun a ha => nomatch ha⟩⟩, ?_, ?_, ?_⟩
        · exact postW_of (by rfl) (w_eq_bool (w_res rfl) w_lit) (by rfl)
        · obtain ⟨h', t', rfl, g, lv⟩ := k; exact oldK_of g lv ct
        · obtain ⟨h', t', rfl, _⟩ := k; rfl
        · obtain ⟨h', t', rfl, _⟩ := k; exact .of_eq hg
end Mine

end
section
open PySem PySem.W PyProof.Rows
set_option maxRecDepth 100000
set_option maxHeartbeats 1000000
set_option linter.unusedSimpArgs false
set_option linter.unusedVariables false
namespace Mine
noncomputable def initArgs (fd : FuncData) (T : Addr) : Bool :=
  fd.params.posonlyargs.isEmpty && fd.params.vararg.isNone && fd.params.kwonlyargs.isEmpty && fd.params.kwarg.isNone && fd.defaults == .ref T && fd.params.args.map (·.arg) == [("self" : Str), ("memory" : Str), ("pc" : Str)]
theorem three_args {l : List Arg} (h : l.map (·.arg) = [("self" : Str), ("memory" : Str), ("pc" : Str)]) : ∃ t1 p1 t2 p2 t3 p3, l = [⟨"self", t1, p1⟩, ⟨"memory", t2, p2⟩, ⟨"pc", t3, p3⟩] := by
  match l, h with
  | [⟨n1, t1, p1⟩, ⟨n2, t2, p2⟩, ⟨n3, t3, p3⟩], h =>
    simp only [List.map_cons, List.map_nil, List.cons.injEq, and_true] at h
    obtain ⟨rfl, rfl, rfl⟩ := h
    exact ⟨_, _, _, _, _, _, rfl⟩
theorem bind_init {K : Frag} {s : Shared} {fd : FuncData} {T : Addr} {d1 d2 : Value} (h : initArgs fd T = true) (hT : K.lookup T = some (tupO [d1, d2])) (X : K.In s.heap) (a b c : Value) :
    BindsTo s fd ⟨[a, b, c], []⟩ [("self", a), ("memory", b), ("pc", c)] ∧ BindsTo s fd ⟨[a], [("memory", b), ("pc", c)]⟩ [("self", a), ("memory", b), ("pc", c)] := by
  unfold initArgs at h
  simp only [Bool.and_eq_true, List.isEmpty_iff, Option.isNone_iff_eq_none, beq_iff_eq] at h
  obtain ⟨⟨⟨⟨⟨h1, h2⟩, h3⟩, h4⟩, h5⟩, h6⟩ := h
  obtain ⟨t1, p1, t2, p2, t3, p3, h7⟩ := three_args h6
  obtain ⟨name, qualname, ⟨po, ar, va, ko, kd, kw, df⟩, body, scope, globals, closure, defaults, kwdefaults, doc, pm, ann, code, ct, bl⟩ := fd
  dsimp only at h1 h2 h3 h4 h5 h7
  subst h1 h2 h3 h4 h5 h7
  exact ⟨BindsTo.of_defaults rfl (X _ _ hT) rfl rfl rfl, BindsTo.of_defaults rfl (X _ _ hT) rfl rfl rfl⟩
noncomputable def methsB (K : Frag) (C : Addr) (c : Cls) (fnA : Nat → Addr) (im : Nat) : Nat → List MethD → Bool
  | _, [] => true
  | m, md :: r => methB (m != im) K C c fnA m md && methsB K C c fnA im (m + 1) r
theorem in_of_tree {s : SharedT} {K : Frag} (h : K.map (fun p => (Nat.blt p.1 s.n, (s.tree.get p.1).map alive)) = K.map (fun p => (true, some (some p.2)))) : (K.map (·.1)).map s.abs.heap.get? = K.map fun p => some p.2 := by
  rw [List.map_map]
  rw [List.map_inj_left] at h ⊢
  intro p hp
  have := h p hp
  rw [Prod.mk.injEq] at this
  obtain ⟨h1, h2⟩ := this
  obtain ⟨o, g, e⟩ := Option.map_eq_some_iff.mp h2
  show (absHeap s.tree s.n s.life).get? p.1 = some p.2
  rw [abs_get (Nat.blt_eq.mp h1) g, e]
theorem seen_of {KK : Params → Frag} {as : List Addr} (e : ∀ P, as = (KK P).map (·.1)) {s : SharedT} {w : World} (h : (KK w.params).map (fun p => (Nat.blt p.1 s.n, (s.tree.get p.1).map alive)) = (KK w.params).map (fun p => (true, some (some p.2)))) : (kHook KK as e).obs s.abs = (kHook KK as e).val w := by
  show as.map s.abs.heap.get? = (KK w.params).map fun p => some p.2
  rw [e w.params]
  exact in_of_tree h
theorem left_of {p q : Program} {loose : List Str} {Xt : Shared → Bool} {H : Hook} {N : Nat} {g0 : Bool} {H₀ : Params → Heap} {gs₀ : Array GenState} {d₀ : Drawn} {k₀ : Nat} {m₀ : Nat} {ann : Option Value} {F : World → OsState → SharedT}
    (open_ : ∀ w : World, (fencedOpening treeTable p w N).map (fun s => (s.heap, s.gens, s.drawn, s.toks)) = some (H₀ w.params, gs₀, d₀, k₀))
    (size : ∀ w : World, ((H₀ w.params).isNs mainGlobals && gs₀.size == 0, (H₀ w.params).objs.size, (H₀ w.params).nsMap mainGlobals "__annotations__") = (true, m₀, ann))
    (run : ∀ (w : World) (os : OsState), ∃ M, M ≤ N ∧ topRun treeTable p w m₀ ann M ⟨H₀ w.params, gs₀, d₀, k₀, os⟩ (topStub p) = some (F w os).abs)
    (looks : ∀ (w : World) (os : OsState), ((staticsOk (importedModules p.main.body) (H₀ w.params) (F w os).abs.heap && namesBound p (F w os).abs.heap && gensDone (F w os).abs && laidKept (H₀ w.params) (F w os).abs.heap),
        openSeen q loose (importedModules p.main.body) Xt g0 (F w os).abs) = (true, openGood q loose))
    (seen : ∀ (w : World) (os : OsState), H.obs (F w os).abs = H.val w) : LeftO p q loose Xt H.obs H.val N g0 :=
  LeftO.of_run (F := fun w os => (F w os).abs) open_ size run fun w os => by
    have h := looks w os
    rw [Prod.mk.injEq] at h
    rw [h.1, h.2, seen w os]
theorem caller_ok {j : Nat} (hj : j ≤ 8) : AOk callerA (j + deep + 3) := by
  refine ⟨rfl, ?_, ?_⟩
  · have : callerA.depth + (8 + deep + 3) ≤ recursionLimit := by decide +kernel
    omega
  · have : callerA.units + 4 * (8 + deep + 3) + 80 < cLine := by decide +kernel
    omega
theorem hideTabs (h : Heap) : ∃ g : Heap, (∀ b o, h.get? b = some o → tabb o = false → g.get? b = some o) ∧ ∀ b o, g.get? b = some o → h.get? b = some o ∧ tabb o = false := by
  refine ⟨hideAll h ((List.range h.objs.size).filter fun b => ((h.get? b).map tabb).getD false), fun b o e t => hideAll_get _ e fun q => ?_, fun b o e => ?_⟩
  · have := (List.mem_filter.mp q).2
    rw [e] at this
    exact Bool.false_ne_true (t.symm.trans this)
  · have e' := of_hideAll _ e
    refine ⟨e', ?_⟩
    cases t : tabb o with
    | false => rfl
    | true =>
      have := hideAll_none ((List.range h.objs.size).filter fun b => ((h.get? b).map tabb).getD false) (h := h) (b := b) (List.mem_filter.mpr ⟨List.mem_range.mpr (Heap.lt_size e'), by rw [e']; exact t⟩)
      rw [this] at e; injection e
theorem law_core {X : LX} (OK : LOk X) (FO : FnsOk X) {fdt : FuncData} {fd : FnD} (S : FDok X fdt fd) {s : Shared} (hs : ∀ b o, X.x.h₀.get? b = some o → s.heap.get? b = some o) (lim : s.heap.NoLimit) (htab : TabInv s.heap) (np : fd.np = 1) {a : Addr} {o : Obj} (ho : s.heap.get? a = some o) (hd : o.data = .func fdt) (hcd : s.heap.CodeRec fdt.code fdt.qualname)
    {ns : List Int} {b : Addr} {its : Array Value} (hl : ns.length ≤ 63) (li : s.heap.IsList b its) (ia : IntsAre its.toList ns) {j : Nat} (hj : j ≤ 8)
    (D : ∃ ρ', exLs X.x.c X.im X.fuel (callL X.x.c X.im X.fuel X.F j) fd.body (some (.ints ns) :: List.replicate (fd.vars.length - 1) none) = some (.ret (.bool true), ρ')) {R : Result → Shared → Prop}
    (post : ∀ s', Kt s s' → R (.ok (.ret (.bool true))) s') : codeAny (model X.x.prog X.x.w) callerA (.call (.ref a) ⟨[.ref b], []⟩) R s := by
  obtain ⟨ρ', D⟩ := D
  refine run_fn OK (caller_ok hj) (fun A' _ => sound_callL FO j A') S ho hd lim hcd (args := [.ints ns]) (vals := [.ref b]) (N := fun _ => False) (by rw [np]; rfl) rfl (by rw [np]; exact D) (fun q => by injection q) hs (fun _ q => q.elim) (.cons ⟨b, its, rfl, fun q => q, li, ia, Nat.le_trans hl (by decide)⟩ .nil) FO.h0T htab fun y s' r k => ?_
  have : y = .bool true := r
  subst this
  exact post s' k
theorem row_holds {l : OpenLaw} {p q : Program} {loose : List Str} {Xt : Shared → Bool} {H : Hook} {N : Nat} {d : DefRec} (hp : l.prog = p) (hm : l.most = some 63) (hbn : l.bound = none) (hwr : l.writes = false)
    (left : LeftO p q loose Xt H.obs H.val N true) (hXt : ∀ s, Xt s = (xlAt q [] s && recOk (RowW.records l.row.toRowW) s))
    (hdef : defOf q l.name = some (d, [])) (hthe : p.theDef l.name = some (d.params, d.body, d.scope)) (hkw : kwWritten? d.params.kwonlyargs d.params.kw_defaults = some []) (hdfl : d.params.defaults = [])
    (said : l.row.wellSaid = true) (ok : (chainsOk q && opensWell p && (frees l.row.toRowW && l.row.within.isEmpty)) = true) (hb : p.bare) (hw : l.row.toRowW.promised)
    (core : ∀ (w : World) (s : Shared) (mb : Str → Option Value), H.says w s.heap → s.heap.NoLimit → s.heap.Ns builtinsNs mb → (∀ x : Str, x ≠ "__name__" → mb x = bootBuiltins x) → ∀ (a : Addr) (o : Obj) (pm cd doc kV : Value), s.heap.get? a = some o →
      o.data = .func { PySem.Calls.docDef d.name d.params d.body d.scope pm cd doc with defaults := .none, kwdefaults := kV } → s.heap.CodeRec cd d.name → ∀ (ns : List Int) (b : Addr) (its : Array Value), ns.length ≤ 63 → s.heap.IsList b its → IntsAre its.toList ns →
      ∀ R : Result → Shared → Prop, (∀ s', Kt s s' → (∀ o, s.heap.get? tabP = some o → isCodeTable s.heap tabP) → R (.ok (.ret (.bool true))) s') → codeAny (model p w) callerA (.call (.ref a) ⟨[.ref b], []⟩) R s) : l.row.Holds := by
  subst hp
  refine PySem.W.holds_open (r := l.row) (q := q) (loose := loose) (Xt := Xt) (XP := XL q []) (Yf := H.obs) (Ya := H.val) (YP := H.says) (d := d) (kwd := []) (N := N) left H.of H.keeps (fun s e => xl_of s ?_) XL.keeps
    hdef hthe hkw (fun s e => recFacts_of ?_) ?_ said ok hb hw (walk_of_law hm hbn ?_)
  · rw [hXt] at e; exact (Bool.and_eq_true_iff.mp e).1
  · rw [hXt] at e; exact (Bool.and_eq_true_iff.mp e).2
  · show (!l.writes || _) = true
    rw [hwr]; rfl
  · intro w s₀ s₁ mg mb G Y a o pm cd doc dV kV ho hd hcd hD ns b its hl li ia R post
    obtain rfl := Dflts.none hD hdfl
    exact core w s₁ mb Y G.T.nolimit G.T.b G.T.builtins a o pm cd doc kV ho hd hcd ns b its hl li ia R post
end Mine

end
section
open PySem PySem.W PyProof.Rows
set_option maxRecDepth 100000
set_option maxHeartbeats 1000000
set_option linter.unusedSimpArgs false
set_option linter.unusedVariables false
namespace Mine
noncomputable def o_Lambda (x : PySem.Expr) (f : Arguments → PySem.Expr → Scope → Pos → Bool) : Bool := if h : x.ctorIdx = 4 then PySem.Expr.Lambda.elim (motive_1 := fun _ => Bool) x h f else false
theorem o_Lambda_elim {x : PySem.Expr} {f : Arguments → PySem.Expr → Scope → Pos → Bool} {P : PySem.Expr → Prop} (h : o_Lambda x f = true) (k : ∀ a0 a1 a2 a3, f a0 a1 a2 a3 = true → P (.Lambda a0 a1 a2 a3)) : P x := by
  by_cases e : x.ctorIdx = 4
  · exact PySem.Expr.Lambda.elim (motive_1 := fun x => o_Lambda x f = true → P x) x e (fun a0 a1 a2 a3 h => k a0 a1 a2 a3 h) h
  · exact absurd ((dif_neg e).symm.trans h) Bool.false_ne_true
noncomputable def plainPs (p : Arguments) (names : List Str) : Bool := p.posonlyargs.isEmpty && p.vararg.isNone && p.kwonlyargs.isEmpty && p.kwarg.isNone && p.kw_defaults.isEmpty && p.defaults.isEmpty && p.args.map (·.arg) == names
noncomputable def lamNs : List (Str × NameKind) := [(("x" : Str), NameKind.local), (("self" : Str), NameKind.free)]
noncomputable def lamB (c : Cls) (a : Arguments) (b : PySem.Expr) (sc : Scope) (pos : Pos) : Bool := plainPs a ["x"] && trE c ["self", "x"] lamE b && sc.kind == .function && !sc.isCoroutine && !sc.isGenerator && sc.names == lamNs && decide (pos = lamPos)
structure LamOk (c : Cls) (a : Arguments) (b : PySem.Expr) (sc : Scope) (pos : Pos) : Prop where
  ps : plainPs a ["x"] = true
  tr : trE c ["self", "x"] lamE b = true
  kind : sc.kind = .function
  co : sc.isCoroutine = false
  gen : sc.isGenerator = false
  names : sc.names = lamNs
  pos : pos = lamPos
theorem lamB_of {c : Cls} {a : Arguments} {b : PySem.Expr} {sc : Scope} {pos : Pos} (h : lamB c a b sc pos = true) : LamOk c a b sc pos := by
  unfold lamB at h
  simp only [Bool.and_eq_true, Bool.not_eq_true', beq_iff_eq, decide_eq_true_eq] at h
  obtain ⟨⟨⟨⟨⟨⟨h1, h2⟩, h3⟩, h4⟩, h5⟩, h6⟩, h7⟩ := h
  exact ⟨h1, h2, h3, h4, h5, h6, h7⟩
noncomputable def retB (c : Cls) (mB kW : Nat) (n : Str) (s2 : Stmt) : Bool := o_Return s2 fun ov q7 => o_some ov fun x => o_BinOp x fun e1 op y q6 => o_BinOp y fun z op2 e2 q5 => o_Call z fun f as ks q4 => o_Attribute f fun g m ap => o_Name g fun s bp => o_cons as fun a1 ar => o_Call a1 fun f2 as2 ks2 q3 => o_Name f2 fun w2 q1 => o_cons as2 fun a2 ar2 => o_Name a2 fun d q2 =>
  o_nil ar (o_nil ar2 (o_nil ks2 (o_nil ks (op == .Add && op2 == .LShift && w2 == ("wrap" : Str) && d == ("addr" : Str) && s == ("self" : Str) && m == n && ap.endLine == q4.line && trE c ["self", "addr"] (.call1 mB (.var 1)) e1 && trE c ["self", "addr"] (.cst kW) e2))))
theorem retB_of {c : Cls} {mB kW : Nat} {n : Str} {s : Stmt} (h : retB c mB kW n s = true) : ∃ e1 bp ap q1 q2 q3 q4 e2 q5 q6 q7, s = .Return (some (.BinOp e1 .Add (.BinOp (.Call (.Attribute (.Name ("self" : Str) bp) n ap) [.Call (.Name "wrap" q1) [.Name "addr" q2] [] q3] [] q4) .LShift e2 q5) q6)) q7 ∧
    ap.endLine = q4.line ∧ trE c ["self", "addr"] (.call1 mB (.var 1)) e1 = true ∧ trE c ["self", "addr"] (.cst kW) e2 = true := by
  apply o_Return_elim h; intro ov q7 h
  apply o_some_elim h; intro x h
  apply o_BinOp_elim h; intro e1 op y q6 h
  apply o_BinOp_elim h; intro z op2 e2 q5 h
  apply o_Call_elim h; intro f as ks q4 h
  apply o_Attribute_elim h; intro g m ap h
  apply o_Name_elim h; intro s bp h
  apply o_cons_elim h; intro a1 ar h
  apply o_Call_elim h; intro f2 as2 ks2 q3 h
  apply o_Name_elim h; intro w2 q1 h
  apply o_cons_elim h; intro a2 ar2 h
  apply o_Name_elim h; intro d q2 h
  apply o_nil_elim h; intro h
  apply o_nil_elim h; intro h
  apply o_nil_elim h; intro h
  apply o_nil_elim h; intro h
  simp only [Bool.and_eq_true, beq_iff_eq] at h
  obtain ⟨⟨⟨⟨⟨⟨⟨⟨h1, h2⟩, h3⟩, h4⟩, h5⟩, h6⟩, h7⟩, h8⟩, h9⟩ := h
  subst h1 h2 h3 h4 h5 h6
  exact ⟨_, _, _, _, _, _, _, _, _, _, _, rfl, h7, h8, h9⟩
noncomputable def wrapB (c : Cls) (mB kW : Nat) (n : Str) (b : List Stmt) : Bool := o_cons b fun s1 r => o_Assign s1 fun ts v p2 => o_cons ts fun t tr => o_Name t fun w p1 => o_Lambda v fun a e sc pos => o_nil tr (w == ("wrap" : Str) && lamB c a e sc pos && one (retB c mB kW n) r)
theorem wrapB_of {c : Cls} {mB kW : Nat} {n : Str} {b : List Stmt} (h : wrapB c mB kW n b = true) : ∃ a e sc p1 p2 s, LamOk c a e sc lamPos ∧ b = [.Assign [.Name "wrap" p1] (.Lambda a e sc lamPos) p2, s] ∧ retB c mB kW n s = true := by
  apply o_cons_elim h; intro s1 r h
  apply o_Assign_elim h; intro ts v p2 h
  apply o_cons_elim h; intro t tr h
  apply o_Name_elim h; intro w p1 h
  apply o_Lambda_elim h; intro a e sc pos h
  apply o_nil_elim h; intro h
  obtain ⟨h, h3⟩ := Bool.and_eq_true_iff.mp h
  obtain ⟨h1, h2⟩ := Bool.and_eq_true_iff.mp h
  cases beq_iff_eq.mp h1
  have L := lamB_of h2
  obtain ⟨s, rfl, h3⟩ := one_of h3
  cases L.pos
  exact ⟨_, _, _, _, _, _, L, rfl, h3⟩
noncomputable def codeHdB (K : Frag) (c P : Addr) : Bool := match K.lookup c with
  | some ⟨.type t, _, .fields vs, _⟩ => t == "code" && vs[11]? == some (.ref P) && (match vs.getD 18 .none with | .str _ _ => true | _ => false) && (match vs.getD 7 .none with | .int _ _ => true | _ => false) && (match vs.getD 9 .none with | .bool _ => true | _ => false) && (match vs.getD 10 .none with | .int _ _ => true | _ => false) && c != P
  | _ => false
theorem codeHd_of {K : Frag} {c P : Addr} (h : codeHdB K c P = true) {hp : Heap} (X : K.In hp) : CodeHd hp c P := by
  unfold codeHdB at h
  split at h
  · rename_i t d vs sl e
    simp only [Bool.and_eq_true, beq_iff_eq, bne_iff_ne] at h
    obtain ⟨⟨⟨⟨⟨⟨h1, h2⟩, h3⟩, h4⟩, h5⟩, h6⟩, h7⟩ := h
    subst h1
    split at h3
    · rename_i file tf e18
      split at h4
      · rename_i flags tg e7
        split at h5
        · rename_i inF e9
          split at h6
          · rename_i text tt e10
            have g11 : vs.getD 11 .none = .ref P := by rw [Array.getD_eq_getD_getElem?, h2]; rfl
            exact ⟨_, vs, file, tf, flags, tg, inF, text, tt, X _ _ e, rfl, rfl, h2, g11, e18, e7, e9, e10, h7⟩
          · injection h6
        · injection h5
      · injection h4
    · injection h3
  · injection h
noncomputable def wrapFB (K : Frag) (cl : Cls) (mB kW : Nat) (n : Str) (c : Addr) (fd : FuncData) : Bool := (match fd.body with | .stmts b => wrapB cl mB kW n b | _ => false) && plainArgs fd ["self", "addr"] && fd.scope.names.lookup ("self" : Str) == some .cell && fd.scope.names.lookup ("addr" : Str) == some .local && fd.scope.names.lookup ("wrap" : Str) == some .local && fd.code == .ref c &&
  fd.globals == mainGlobals && fd.closure.isEmpty && (fd.qualname ++ ".<locals>." ++ "<lambda>") == lamQual && codeHdB K c tabP && fd.scope.kind == .function && !fd.scope.isGenerator && !fd.scope.isCoroutine && codeIn K fd.code fd.qualname
theorem wrap_meth {x : Cx} {m mB kW : Nat} {md mdB : MethD} {c : Addr} {fd : FuncData} (h1 : findIn x.K (.ref x.C) md.nm = some (some (.ref (x.fnA m)))) (h2 : nmB md.nm = true) (h3 : varsB md = true)
    (np : md.np = 2) (vars : md.vars = [("self" : Str), ("addr" : Str)]) (body : md.body = .cons (.ret (.bin .add (.call1 mB (.var 1)) (.bin .shl (.call1 mB lamE) (.cst kW)))) .nil) (hB : x.c.P[mB]? = some mdB)
    (e : x.K.lookup (x.fnA m) = some ⟨.type "function", none, .func fd, #[]⟩) (hf : wrapFB x.K x.c mB kW mdB.nm c fd = true) (main : ∃ mg, x.h₀.Ns mainGlobals mg ∧ x.h₀.BuiltinsAt mg tabP) (nP : x.h₀.get? tabP = none) : MethOk x m md := by
  unfold wrapFB at hf
  simp only [Bool.and_eq_true, Bool.not_eq_true', beq_iff_eq, List.isEmpty_iff] at hf
  obtain ⟨⟨⟨⟨⟨⟨⟨⟨⟨⟨⟨⟨⟨g1, g2⟩, g3⟩, g4⟩, g5⟩, g6⟩, g7⟩, g8⟩, g9⟩, g10⟩, g11⟩, g12⟩, g13⟩, g14⟩ := hf
  have body' : ∃ b, fd.body = .stmts b ∧ wrapB x.c mB kW mdB.nm b = true := by
    split at g1
    · rename_i b hb; exact ⟨b, hb, g1⟩
    · injection g1
  obtain ⟨b, hb, hw⟩ := body'
  obtain ⟨a, le, sc, p1, p2, s, L, rfl, hr⟩ := wrapB_of hw
  obtain ⟨e1, bp, ap, q1, q2, q3, q4, e2, q5, q6, q7, rfl, r1, r2, r3⟩ := retB_of hr
  refine methW_of h1 h2 h3 e hb g11 g12 g13 g14 ⟨np, vars, body, hB, ⟨_, _, _, _, _, _, _, _, _, _, _, _, _, rfl, r1, r2, r3⟩, L.tr, ⟨g3, g4, g5⟩, fun L => Option.isSome_iff_exists.mpr (Option.isSome_iff_exists.mp (cellsFrom_some _ _ _ (.inl g3))), L.kind, L.co, L.gen, fun z hz => ?_, ?_, ?_, fun env cc hcc => ?_, fun env => ?_, fun pm cdv ct y cl => ?_, fun vals hl => bind_plain g2 (by decide) hl, g6, fun h X => codeHd_of g10 X, g7, g8, g9, main, by decide, nP⟩
  · rw [L.names] at hz
    rcases List.mem_cons.mp hz with rfl | hz
    · exact fun q => nomatch q
    · rw [List.mem_singleton.mp hz]; exact fun q => nomatch q
  · rw [L.names]; rfl
  · rw [L.names]; rfl
  · rw [closure_eq fun y hy hk => ?_]
    · rw [L.names]
      show pure (match (NameKind.local == .free), env.cells.lookup ("x" : Str) with | true, some c => clOf env.cells [(("self" : Str), NameKind.free)] ((("x" : Str), c) :: []) | _, _ => clOf env.cells [(("self" : Str), NameKind.free)] []) = _
      have : (NameKind.local == NameKind.free) = false := rfl
      rw [this]
      show pure (match (NameKind.free == .free), env.cells.lookup ("self" : Str) with | true, some c => clOf env.cells [] ((("self" : Str), c) :: []) | _, _ => clOf env.cells [] []) = _
      rw [hcc]
      rfl
    · rw [L.names] at hy
      rcases List.mem_cons.mp hy with rfl | hy
      · injection hk
      · rw [List.mem_singleton.mp hy]; exact ⟨cc, hcc⟩
  · have := L.ps
    unfold plainPs at this
    simp only [Bool.and_eq_true, List.isEmpty_iff] at this
    obtain ⟨⟨⟨_, h5⟩, h6⟩, _⟩ := this
    obtain ⟨_, _, _, _, _, _, _⟩ := a
    dsimp only at h5 h6
    subst h5 h6
    rfl
  · have hp : plainArgs (kla_fn "<lambda>" lamQual a le sc cl pm cdv ct) ["x"] = true := by
      have := L.ps
      unfold plainPs at this
      unfold plainArgs
      simp only [Bool.and_eq_true, List.isEmpty_iff, Option.isNone_iff_eq_none, beq_iff_eq] at this ⊢
      obtain ⟨⟨⟨⟨⟨⟨h1, h2⟩, h3⟩, h4⟩, h5⟩, h6⟩, h7⟩ := this
      exact ⟨⟨⟨⟨⟨h1, h2⟩, h3⟩, h4⟩, trivial⟩, h7⟩
    exact bind_plain hp (by decide) rfl
noncomputable def methsX (K : Frag) (C : Addr) (c : Cls) (fnA : Nat → Addr) (im sk : Nat) : Nat → List MethD → Bool
  | _, [] => true
  | m, md :: r => (m == sk || methB (m != im) K C c fnA m md) && methsX K C c fnA im sk (m + 1) r
theorem methsX_of {K : Frag} {C : Addr} {c : Cls} {fnA : Nat → Addr} {im sk : Nat} : ∀ {l : List MethD} {k : Nat}, methsX K C c fnA im sk k l = true → ∀ m md, l[m]? = some md → k + m = sk ∨ methB (k + m != im) K C c fnA (k + m) md = true
  | [], k, _, m, md, e => by simp at e
  | a :: l, k, h, 0, md, e => by
    unfold methsX at h
    simp at e; subst e
    have := (Bool.and_eq_true_iff.mp h).1
    simpa using this
  | a :: l, k, h, m + 1, md, e => by
    unfold methsX at h
    have := methsX_of (Bool.and_eq_true_iff.mp h).2 m md (by simpa using e)
    rwa [show k + 1 + m = k + (m + 1) by omega] at this
theorem lookup_mem {β : Type} {a : Nat} {b : β} : ∀ {l : List (Nat × β)}, l.lookup a = some b → (a, b) ∈ l
  | (c, d) :: l, h => by
    rw [List.lookup_cons] at h
    cases q : a == c with
    | true => rw [q] at h; (injection h with h; subst h); rw [beq_iff_eq.mp q]; exact .head _
    | false => rw [q] at h; exact .tail _ (lookup_mem h)
section
variable {h g : Heap} (k : ∀ b o, h.get? b = some o → tabb o = false → g.get? b = some o)
include k
theorem ns_hid {a : Addr} {m : Str → Option Value} (x : h.Ns a m) : g.Ns a m := by
  obtain ⟨o, es, n, e, d, r⟩ := x
  exact ⟨o, es, n, k _ _ e (tabb_d fun ps z => by rw [d] at z; injection z), d, r⟩
theorem lim_hid (x : h.NoLimit) : g.NoLimit := by
  obtain ⟨mc, n, e⟩ := x
  exact ⟨mc, ns_hid k n, e⟩
theorem in_hid {K : Frag} (x : K.In h) (t : (K.all fun p => !tabb p.2) = true) : K.In g := fun a o e => k a o (x a o e) (by
  have := List.all_eq_true.mp t (a, o) (lookup_mem e)
  simpa using this)
end
theorem nP_hid {h g : Heap} {ps : Array Value} (k : ∀ b o, g.get? b = some o → h.get? b = some o ∧ tabb o = false) (e : h.get? tabP = some (tabObj ps)) : g.get? tabP = none := by
  cases q : g.get? tabP with
  | none => rfl
  | some o =>
    obtain ⟨e', t⟩ := k _ _ q
    rw [e] at e'; (injection e' with e'; subst e'); injection t
theorem codeTab_of {h : Heap} {c P : Addr} (x : CodeHd h c P) : isCodeTable h P := by
  obtain ⟨o, vs, _, _, _, _, _, _, _, e, c1, d, q, _⟩ := x
  exact ⟨_, o, vs, e, c1, d, q⟩
theorem tab_start {h : Heap} (e : h.get? tabP = some (tabObj #[])) : TabInv h := ⟨#[], e, by first | exact .nil | (intro _ h; injection h) | trivial, .inl rfl⟩
theorem in_left {K K' : Frag} {h : Heap} (x : Frag.In (K ++ K') h) : K.In h := fun a o e => x a o (by rw [List.lookup_append, e]; rfl)
end Mine

end
section
open PySem PySem.W PyProof.Rows
set_option maxRecDepth 100000
set_option maxHeartbeats 0
namespace Mine
noncomputable def md_init : MethD := { nm := "__init__", np := 3, vars := ["self", "memory", "pc"], body := (.cons (.asgF .name .txt) (.cons (.asgF .bm (.bin .sub (.bin .shl (.int 1) (.cst 11)) (.int 1))) (.cons (.asgF .am (.bin .sub (.bin .shl (.int 1) (.cst 12)) (.int 1))) (.cons (.asgF .ahm (.bin .shl (.fld .bm) (.cst 11))) (.cons (.asgF .spb (.bin .shl (.int 1) (.cst 11))) (.cons (.asgF .exc (.int 0)) (.cons (.asgF .addc (.bool false)) (.cons (.asgF .cyc (.int 0)) (.cons (.ite (.isNone 1) (.cons (.asgV 1 .stuck) .nil) .nil) (.cons (.asgF .mem (.var 1)) (.cons (.asgF .start (.var 2)) (.cons (.expr (.call0 2)) .nil)))))))))))) }
noncomputable def md_step : MethD := { nm := "step", np := 1, vars := ["self", "instructCode"], body := (.cons (.asgV 1 (.mem (.fld .pc))) (.cons (.asgF .pc (.bin .and (.bin .add (.fld .pc) (.int 1)) (.fld .am))) (.cons (.asgF .exc (.int 0)) (.cons (.asgF .addc (.tab 1 (.var 1))) (.cons (.expr (.callT (.var 1))) (.cons (.augF .pc .and (.fld .am)) (.cons (.augF .cyc .add (.bin .add (.tab 0 (.var 1)) (.fld .exc))) (.cons (.ret (.var 0)) .nil)))))))) }
noncomputable def md_reset : MethD := { nm := "reset", np := 1, vars := ["self"], body := (.cons (.asgF .pc (.fld .start)) (.cons (.ite (.isNoneF .pc) (.cons (.asgF .pc (.call1 6 (.cst 0))) .nil) .nil) (.cons (.asgF .sp (.fld .bm)) (.cons (.asgF .a (.int 0)) (.cons (.asgF .x (.int 0)) (.cons (.asgF .y (.int 0)) (.cons (.asgF .p (.bin .or (.cst 6) (.cst 5))) (.cons (.asgF .cyc (.int 0)) .nil)))))))) }
noncomputable def md_irq : MethD := { nm := "irq", np := 1, vars := ["self"], body := (.cons (.ite (.bin .and (.fld .p) (.cst 8)) (.cons .ret0 .nil) .nil) (.cons (.expr (.call1 21 (.fld .pc))) (.cons (.augF .p .and (.inv (.cst 6))) (.cons (.expr (.call1 19 (.bin .or (.fld .p) (.cst 5)))) (.cons (.augF .p .or (.cst 8)) (.cons (.asgF .pc (.call1 6 (.cst 2))) (.cons (.augF .cyc .add (.int 7)) .nil))))))) }
noncomputable def md_nmi : MethD := { nm := "nmi", np := 1, vars := ["self"], body := (.cons (.expr (.call1 21 (.fld .pc))) (.cons (.augF .p .and (.inv (.cst 6))) (.cons (.expr (.call1 19 (.bin .or (.fld .p) (.cst 5)))) (.cons (.augF .p .or (.cst 8)) (.cons (.asgF .pc (.call1 6 (.cst 1))) (.cons (.augF .cyc .add (.int 7)) .nil)))))) }
noncomputable def md_ByteAt : MethD := { nm := "ByteAt", np := 2, vars := ["self", "addr"], body := (.cons (.ret (.mem (.var 1))) .nil) }
noncomputable def md_WordAt : MethD := { nm := "WordAt", np := 2, vars := ["self", "addr"], body := (.cons (.ret (.bin .add (.call1 5 (.var 1)) (.bin .shl (.call1 5 (.bin .add (.var 1) (.int 1))) (.cst 11)))) .nil) }
noncomputable def md_WrapAt : MethD := { nm := "WrapAt", np := 2, vars := ["self", "addr"], body := (.cons (.ret (.bin .add (.call1 5 (.var 1)) (.bin .shl (.call1 5 (.bin .add (.bin .and (.var 1) (.fld .ahm)) (.bin .and (.bin .add (.var 1) (.int 1)) (.fld .bm)))) (.cst 11)))) .nil) }
noncomputable def md_ProgramCounter : MethD := { nm := "ProgramCounter", np := 1, vars := ["self"], body := (.cons (.ret (.fld .pc)) .nil) }
noncomputable def md_ImmediateByte : MethD := { nm := "ImmediateByte", np := 1, vars := ["self"], body := (.cons (.ret (.call1 5 (.fld .pc))) .nil) }
noncomputable def md_ZeroPageAddr : MethD := { nm := "ZeroPageAddr", np := 1, vars := ["self"], body := (.cons (.ret (.call1 5 (.fld .pc))) .nil) }
noncomputable def md_ZeroPageXAddr : MethD := { nm := "ZeroPageXAddr", np := 1, vars := ["self"], body := (.cons (.ret (.bin .and (.fld .bm) (.bin .add (.fld .x) (.call1 5 (.fld .pc))))) .nil) }
noncomputable def md_ZeroPageYAddr : MethD := { nm := "ZeroPageYAddr", np := 1, vars := ["self"], body := (.cons (.ret (.bin .and (.fld .bm) (.bin .add (.fld .y) (.call1 5 (.fld .pc))))) .nil) }
noncomputable def md_IndirectXAddr : MethD := { nm := "IndirectXAddr", np := 1, vars := ["self"], body := (.cons (.ret (.call1 7 (.bin .and (.fld .bm) (.bin .add (.call1 5 (.fld .pc)) (.fld .x))))) .nil) }
noncomputable def md_IndirectYAddr : MethD := { nm := "IndirectYAddr", np := 1, vars := ["self", "a1", "a2"], body := (.cons (.ite (.fld .addc) (.cons (.asgV 1 (.call1 7 (.call1 5 (.fld .pc)))) (.cons (.asgV 2 (.bin .and (.bin .add (.var 1) (.fld .y)) (.fld .am))) (.cons (.ite (.cmp .ne (.bin .and (.var 1) (.fld .ahm)) (.bin .and (.var 2) (.fld .ahm))) (.cons (.augF .exc .add (.int 1)) .nil) .nil) (.cons (.ret (.var 2)) .nil)))) (.cons (.ret (.bin .and (.bin .add (.call1 7 (.call1 5 (.fld .pc))) (.fld .y)) (.fld .am))) .nil)) .nil) }
noncomputable def md_AbsoluteAddr : MethD := { nm := "AbsoluteAddr", np := 1, vars := ["self"], body := (.cons (.ret (.call1 6 (.fld .pc))) .nil) }
noncomputable def md_AbsoluteXAddr : MethD := { nm := "AbsoluteXAddr", np := 1, vars := ["self", "a1", "a2"], body := (.cons (.ite (.fld .addc) (.cons (.asgV 1 (.call1 6 (.fld .pc))) (.cons (.asgV 2 (.bin .and (.bin .add (.var 1) (.fld .x)) (.fld .am))) (.cons (.ite (.cmp .ne (.bin .and (.var 1) (.fld .ahm)) (.bin .and (.var 2) (.fld .ahm))) (.cons (.augF .exc .add (.int 1)) .nil) .nil) (.cons (.ret (.var 2)) .nil)))) (.cons (.ret (.bin .and (.bin .add (.call1 6 (.fld .pc)) (.fld .x)) (.fld .am))) .nil)) .nil) }
noncomputable def md_AbsoluteYAddr : MethD := { nm := "AbsoluteYAddr", np := 1, vars := ["self", "a1", "a2"], body := (.cons (.ite (.fld .addc) (.cons (.asgV 1 (.call1 6 (.fld .pc))) (.cons (.asgV 2 (.bin .and (.bin .add (.var 1) (.fld .y)) (.fld .am))) (.cons (.ite (.cmp .ne (.bin .and (.var 1) (.fld .ahm)) (.bin .and (.var 2) (.fld .ahm))) (.cons (.augF .exc .add (.int 1)) .nil) .nil) (.cons (.ret (.var 2)) .nil)))) (.cons (.ret (.bin .and (.bin .add (.call1 6 (.fld .pc)) (.fld .y)) (.fld .am))) .nil)) .nil) }
noncomputable def md_BranchRelAddr : MethD := { nm := "BranchRelAddr", np := 1, vars := ["self", "addr"], body := (.cons (.augF .exc .add (.int 1)) (.cons (.asgV 1 (.call0 9)) (.cons (.augF .pc .add (.int 1)) (.cons (.ite (.bin .and (.var 1) (.cst 3)) (.cons (.asgV 1 (.bin .sub (.bin .sub (.fld .pc) (.bin .xor (.var 1) (.fld .bm))) (.int 1))) .nil) (.cons (.asgV 1 (.bin .add (.fld .pc) (.var 1))) .nil)) (.cons (.ite (.cmp .ne (.bin .and (.fld .pc) (.fld .ahm)) (.bin .and (.var 1) (.fld .ahm))) (.cons (.augF .exc .add (.int 1)) .nil) .nil) (.cons (.asgF .pc (.bin .and (.var 1) (.fld .am))) .nil)))))) }
noncomputable def md_stPush : MethD := { nm := "stPush", np := 2, vars := ["self", "z"], body := (.cons (.asgM (.bin .add (.fld .sp) (.fld .spb)) (.bin .and (.var 1) (.fld .bm))) (.cons (.augF .sp .sub (.int 1)) (.cons (.augF .sp .and (.fld .bm)) .nil))) }
noncomputable def md_stPop : MethD := { nm := "stPop", np := 1, vars := ["self"], body := (.cons (.augF .sp .add (.int 1)) (.cons (.augF .sp .and (.fld .bm)) (.cons (.ret (.call1 5 (.bin .add (.fld .sp) (.fld .spb)))) .nil))) }
noncomputable def md_stPushWord : MethD := { nm := "stPushWord", np := 2, vars := ["self", "z"], body := (.cons (.expr (.call1 19 (.bin .and (.bin .shr (.var 1) (.cst 11)) (.fld .bm)))) (.cons (.expr (.call1 19 (.bin .and (.var 1) (.fld .bm)))) .nil)) }
noncomputable def md_stPopWord : MethD := { nm := "stPopWord", np := 1, vars := ["self", "z"], body := (.cons (.asgV 1 (.call0 20)) (.cons (.augV 1 .add (.bin .shl (.call0 20) (.cst 11))) (.cons (.ret (.var 1)) .nil))) }
noncomputable def md_FlagsNZ : MethD := { nm := "FlagsNZ", np := 2, vars := ["self", "value"], body := (.cons (.augF .p .and (.inv (.bin .or (.cst 9) (.cst 3)))) (.cons (.ite (.cmp .eq (.var 1) (.int 0)) (.cons (.augF .p .or (.cst 9)) .nil) (.cons (.augF .p .or (.bin .and (.var 1) (.cst 3))) .nil)) .nil)) }
noncomputable def md_opORA : MethD := { nm := "opORA", np := 2, vars := ["self", "x"], body := (.cons (.augF .a .or (.call1 5 (.callV 1))) (.cons (.expr (.call1 23 (.fld .a))) .nil)) }
noncomputable def md_opASL : MethD := { nm := "opASL", np := 2, vars := ["self", "x", "tbyte", "addr"], body := (.cons (.ite (.isNone 1) (.cons (.asgV 2 (.fld .a)) .nil) (.cons (.asgV 3 (.callV 1)) (.cons (.asgV 2 (.call1 5 (.var 3))) .nil))) (.cons (.augF .p .and (.inv (.bin .or (.bin .or (.cst 10) (.cst 3)) (.cst 9)))) (.cons (.ite (.bin .and (.var 2) (.cst 3)) (.cons (.augF .p .or (.cst 10)) .nil) .nil) (.cons (.asgV 2 (.bin .and (.bin .shl (.var 2) (.int 1)) (.fld .bm))) (.cons (.ite (.var 2) (.cons (.augF .p .or (.bin .and (.var 2) (.cst 3))) .nil) (.cons (.augF .p .or (.cst 9)) .nil)) (.cons (.ite (.isNone 1) (.cons (.asgF .a (.var 2)) .nil) (.cons (.asgM (.var 3) (.var 2)) .nil)) .nil)))))) }
noncomputable def md_opLSR : MethD := { nm := "opLSR", np := 2, vars := ["self", "x", "tbyte", "addr"], body := (.cons (.ite (.isNone 1) (.cons (.asgV 2 (.fld .a)) .nil) (.cons (.asgV 3 (.callV 1)) (.cons (.asgV 2 (.call1 5 (.var 3))) .nil))) (.cons (.augF .p .and (.inv (.bin .or (.bin .or (.cst 10) (.cst 3)) (.cst 9)))) (.cons (.augF .p .or (.bin .and (.var 2) (.int 1))) (.cons (.asgV 2 (.bin .shr (.var 2) (.int 1))) (.cons (.ite (.var 2) (.cons .pass .nil) (.cons (.augF .p .or (.cst 9)) .nil)) (.cons (.ite (.isNone 1) (.cons (.asgF .a (.var 2)) .nil) (.cons (.asgM (.var 3) (.var 2)) .nil)) .nil)))))) }
noncomputable def md_opBCL : MethD := { nm := "opBCL", np := 2, vars := ["self", "x"], body := (.cons (.ite (.bin .and (.fld .p) (.var 1)) (.cons (.augF .pc .add (.int 1)) .nil) (.cons (.expr (.call0 18)) .nil)) .nil) }
noncomputable def md_opBST : MethD := { nm := "opBST", np := 2, vars := ["self", "x"], body := (.cons (.ite (.bin .and (.fld .p) (.var 1)) (.cons (.expr (.call0 18)) .nil) (.cons (.augF .pc .add (.int 1)) .nil)) .nil) }
noncomputable def md_opCLR : MethD := { nm := "opCLR", np := 2, vars := ["self", "x"], body := (.cons (.augF .p .and (.inv (.var 1))) .nil) }
noncomputable def md_opSET : MethD := { nm := "opSET", np := 2, vars := ["self", "x"], body := (.cons (.augF .p .or (.var 1)) .nil) }
noncomputable def md_opAND : MethD := { nm := "opAND", np := 2, vars := ["self", "x"], body := (.cons (.augF .a .and (.call1 5 (.callV 1))) (.cons (.expr (.call1 23 (.fld .a))) .nil)) }
noncomputable def md_opBIT : MethD := { nm := "opBIT", np := 2, vars := ["self", "x", "tbyte"], body := (.cons (.asgV 2 (.call1 5 (.callV 1))) (.cons (.augF .p .and (.inv (.bin .or (.bin .or (.cst 9) (.cst 3)) (.cst 4)))) (.cons (.ite (.cmp .eq (.bin .and (.fld .a) (.var 2)) (.int 0)) (.cons (.augF .p .or (.cst 9)) .nil) .nil) (.cons (.augF .p .or (.bin .and (.var 2) (.bin .or (.cst 3) (.cst 4)))) .nil)))) }
noncomputable def md_opROL : MethD := { nm := "opROL", np := 2, vars := ["self", "x", "tbyte", "addr"], body := (.cons (.ite (.isNone 1) (.cons (.asgV 2 (.fld .a)) .nil) (.cons (.asgV 3 (.callV 1)) (.cons (.asgV 2 (.call1 5 (.var 3))) .nil))) (.cons (.ite (.bin .and (.fld .p) (.cst 10)) (.cons (.ite (.bin .and (.var 2) (.cst 3)) (.cons .pass .nil) (.cons (.augF .p .and (.inv (.cst 10))) .nil)) (.cons (.asgV 2 (.bin .or (.bin .shl (.var 2) (.int 1)) (.int 1))) .nil)) (.cons (.ite (.bin .and (.var 2) (.cst 3)) (.cons (.augF .p .or (.cst 10)) .nil) .nil) (.cons (.asgV 2 (.bin .shl (.var 2) (.int 1))) .nil))) (.cons (.augV 2 .and (.fld .bm)) (.cons (.expr (.call1 23 (.var 2))) (.cons (.ite (.isNone 1) (.cons (.asgF .a (.var 2)) .nil) (.cons (.asgM (.var 3) (.var 2)) .nil)) .nil))))) }
noncomputable def md_opEOR : MethD := { nm := "opEOR", np := 2, vars := ["self", "x"], body := (.cons (.augF .a .xor (.call1 5 (.callV 1))) (.cons (.expr (.call1 23 (.fld .a))) .nil)) }
noncomputable def md_opADC : MethD := { nm := "opADC", np := 2, vars := ["self", "x", "data", "halfcarry", "decimalcarry", "adjust0", "adjust1", "nibble0", "nibble1", "aluresult", "result", "tmp"], body := (.cons (.asgV 2 (.call1 5 (.callV 1))) (.cons (.ite (.bin .and (.fld .p) (.cst 7)) (.cons (.asgV 3 (.int 0)) (.cons (.asgV 4 (.int 0)) (.cons (.asgV 5 (.int 0)) (.cons (.asgV 6 (.int 0)) (.cons (.asgV 7 (.bin .add (.bin .add (.bin .and (.var 2) (.int 15)) (.bin .and (.fld .a) (.int 15))) (.bin .and (.fld .p) (.cst 10)))) (.cons (.ite (.cmp .gt (.var 7) (.int 9)) (.cons (.asgV 5 (.int 6)) (.cons (.asgV 3 (.int 1)) .nil)) .nil) (.cons (.asgV 8 (.bin .add (.bin .add (.bin .and (.bin .shr (.var 2) (.int 4)) (.int 15)) (.bin .and (.bin .shr (.fld .a) (.int 4)) (.int 15))) (.var 3))) (.cons (.ite (.cmp .gt (.var 8) (.int 9)) (.cons (.asgV 6 (.int 6)) (.cons (.asgV 4 (.int 1)) .nil)) .nil) (.cons (.asgV 7 (.bin .and (.var 7) (.int 15))) (.cons (.asgV 8 (.bin .and (.var 8) (.int 15))) (.cons (.asgV 9 (.bin .add (.bin .shl (.var 8) (.int 4)) (.var 7))) (.cons (.asgV 7 (.bin .and (.bin .add (.var 7) (.var 5)) (.int 15))) (.cons (.asgV 8 (.bin .and (.bin .add (.var 8) (.var 6)) (.int 15))) (.cons (.augF .p .and (.inv (.bin .or (.bin .or (.bin .or (.cst 10) (.cst 4)) (.cst 3)) (.cst 9)))) (.cons (.ite (.cmp .eq (.var 9) (.int 0)) (.cons (.augF .p .or (.cst 9)) .nil) (.cons (.augF .p .or (.bin .and (.var 9) (.cst 3))) .nil)) (.cons (.ite (.cmp .eq (.var 4) (.int 1)) (.cons (.augF .p .or (.cst 10)) .nil) .nil) (.cons (.ite (.bin .and (.bin .and (.inv (.bin .xor (.fld .a) (.var 2))) (.bin .xor (.fld .a) (.var 9))) (.cst 3)) (.cons (.augF .p .or (.cst 4)) .nil) .nil) (.cons (.asgF .a (.bin .add (.bin .shl (.var 8) (.int 4)) (.var 7))) .nil)))))))))))))))))) (.cons (.ite (.bin .and (.fld .p) (.cst 10)) (.cons (.asgV 11 (.int 1)) .nil) (.cons (.asgV 11 (.int 0)) .nil)) (.cons (.asgV 10 (.bin .add (.bin .add (.var 2) (.fld .a)) (.var 11))) (.cons (.augF .p .and (.inv (.bin .or (.bin .or (.bin .or (.cst 10) (.cst 4)) (.cst 3)) (.cst 9)))) (.cons (.ite (.bin .and (.bin .and (.inv (.bin .xor (.fld .a) (.var 2))) (.bin .xor (.fld .a) (.var 10))) (.cst 3)) (.cons (.augF .p .or (.cst 4)) .nil) .nil) (.cons (.asgV 2 (.var 10)) (.cons (.ite (.cmp .gt (.var 2) (.fld .bm)) (.cons (.augF .p .or (.cst 10)) (.cons (.augV 2 .and (.fld .bm)) .nil)) .nil) (.cons (.ite (.cmp .eq (.var 2) (.int 0)) (.cons (.augF .p .or (.cst 9)) .nil) (.cons (.augF .p .or (.bin .and (.var 2) (.cst 3))) .nil)) (.cons (.asgF .a (.var 2)) .nil))))))))) .nil)) }
noncomputable def md_opROR : MethD := { nm := "opROR", np := 2, vars := ["self", "x", "tbyte", "addr"], body := (.cons (.ite (.isNone 1) (.cons (.asgV 2 (.fld .a)) .nil) (.cons (.asgV 3 (.callV 1)) (.cons (.asgV 2 (.call1 5 (.var 3))) .nil))) (.cons (.ite (.bin .and (.fld .p) (.cst 10)) (.cons (.ite (.bin .and (.var 2) (.int 1)) (.cons .pass .nil) (.cons (.augF .p .and (.inv (.cst 10))) .nil)) (.cons (.asgV 2 (.bin .or (.bin .shr (.var 2) (.int 1)) (.cst 3))) .nil)) (.cons (.ite (.bin .and (.var 2) (.int 1)) (.cons (.augF .p .or (.cst 10)) .nil) .nil) (.cons (.asgV 2 (.bin .shr (.var 2) (.int 1))) .nil))) (.cons (.expr (.call1 23 (.var 2))) (.cons (.ite (.isNone 1) (.cons (.asgF .a (.var 2)) .nil) (.cons (.asgM (.var 3) (.var 2)) .nil)) .nil)))) }
noncomputable def md_opSTA : MethD := { nm := "opSTA", np := 2, vars := ["self", "x"], body := (.cons (.asgM (.callV 1) (.fld .a)) .nil) }
noncomputable def md_opSTY : MethD := { nm := "opSTY", np := 2, vars := ["self", "x"], body := (.cons (.asgM (.callV 1) (.fld .y)) .nil) }
noncomputable def md_opSTX : MethD := { nm := "opSTX", np := 2, vars := ["self", "y"], body := (.cons (.asgM (.callV 1) (.fld .x)) .nil) }
noncomputable def md_opCMPR : MethD := { nm := "opCMPR", np := 3, vars := ["self", "get_address", "register_value", "tbyte"], body := (.cons (.asgV 3 (.call1 5 (.callV 1))) (.cons (.augF .p .and (.inv (.bin .or (.bin .or (.cst 10) (.cst 9)) (.cst 3)))) (.cons (.ite (.cmp .eq (.var 2) (.var 3)) (.cons (.augF .p .or (.bin .or (.cst 10) (.cst 9))) .nil) (.cons (.ite (.cmp .gt (.var 2) (.var 3)) (.cons (.augF .p .or (.cst 10)) .nil) .nil) .nil)) (.cons (.augF .p .or (.bin .and (.bin .sub (.var 2) (.var 3)) (.cst 3))) .nil)))) }
noncomputable def md_opSBC : MethD := { nm := "opSBC", np := 2, vars := ["self", "x", "data", "halfcarry", "decimalcarry", "adjust0", "adjust1", "nibble0", "nibble1", "aluresult", "result"], body := (.cons (.asgV 2 (.call1 5 (.callV 1))) (.cons (.ite (.bin .and (.fld .p) (.cst 7)) (.cons (.asgV 3 (.int 1)) (.cons (.asgV 4 (.int 0)) (.cons (.asgV 5 (.int 0)) (.cons (.asgV 6 (.int 0)) (.cons (.asgV 7 (.bin .add (.bin .add (.bin .and (.fld .a) (.int 15)) (.bin .and (.inv (.var 2)) (.int 15))) (.bin .and (.fld .p) (.cst 10)))) (.cons (.ite (.cmp .le (.var 7) (.int 15)) (.cons (.asgV 3 (.int 0)) (.cons (.asgV 5 (.int 10)) .nil)) .nil) (.cons (.asgV 8 (.bin .add (.bin .add (.bin .and (.bin .shr (.fld .a) (.int 4)) (.int 15)) (.bin .and (.bin .shr (.inv (.var 2)) (.int 4)) (.int 15))) (.var 3))) (.cons (.ite (.cmp .le (.var 8) (.int 15)) (.cons (.asgV 6 (.bin .shl (.int 10) (.int 4))) .nil) .nil) (.cons (.asgV 9 (.bin .add (.bin .add (.fld .a) (.bin .and (.inv (.var 2)) (.fld .bm))) (.bin .and (.fld .p) (.cst 10)))) (.cons (.ite (.cmp .gt (.var 9) (.fld .bm)) (.cons (.asgV 4 (.int 1)) .nil) .nil) (.cons (.augV 9 .and (.fld .bm)) (.cons (.asgV 7 (.bin .and (.bin .add (.var 9) (.var 5)) (.int 15))) (.cons (.asgV 8 (.bin .and (.bin .shr (.bin .add (.var 9) (.var 6)) (.int 4)) (.int 15))) (.cons (.augF .p .and (.inv (.bin .or (.bin .or (.bin .or (.cst 10) (.cst 9)) (.cst 3)) (.cst 4)))) (.cons (.ite (.cmp .eq (.var 9) (.int 0)) (.cons (.augF .p .or (.cst 9)) .nil) (.cons (.augF .p .or (.bin .and (.var 9) (.cst 3))) .nil)) (.cons (.ite (.cmp .eq (.var 4) (.int 1)) (.cons (.augF .p .or (.cst 10)) .nil) .nil) (.cons (.ite (.bin .and (.bin .and (.bin .xor (.fld .a) (.var 2)) (.bin .xor (.fld .a) (.var 9))) (.cst 3)) (.cons (.augF .p .or (.cst 4)) .nil) .nil) (.cons (.asgF .a (.bin .add (.bin .shl (.var 8) (.int 4)) (.var 7))) .nil)))))))))))))))))) (.cons (.asgV 10 (.bin .add (.bin .add (.fld .a) (.bin .and (.inv (.var 2)) (.fld .bm))) (.bin .and (.fld .p) (.cst 10)))) (.cons (.augF .p .and (.inv (.bin .or (.bin .or (.bin .or (.cst 10) (.cst 9)) (.cst 4)) (.cst 3)))) (.cons (.ite (.bin .and (.bin .and (.bin .xor (.fld .a) (.var 2)) (.bin .xor (.fld .a) (.var 10))) (.cst 3)) (.cons (.augF .p .or (.cst 4)) .nil) .nil) (.cons (.asgV 2 (.bin .and (.var 10) (.fld .bm))) (.cons (.ite (.cmp .eq (.var 2) (.int 0)) (.cons (.augF .p .or (.cst 9)) .nil) .nil) (.cons (.ite (.cmp .gt (.var 10) (.fld .bm)) (.cons (.augF .p .or (.cst 10)) .nil) .nil) (.cons (.augF .p .or (.bin .and (.var 2) (.cst 3))) (.cons (.asgF .a (.var 2)) .nil))))))))) .nil)) }
noncomputable def md_opDECR : MethD := { nm := "opDECR", np := 2, vars := ["self", "x", "tbyte", "addr"], body := (.cons (.ite (.isNone 1) (.cons (.asgV 2 (.fld .a)) .nil) (.cons (.asgV 3 (.callV 1)) (.cons (.asgV 2 (.call1 5 (.var 3))) .nil))) (.cons (.augF .p .and (.inv (.bin .or (.cst 9) (.cst 3)))) (.cons (.asgV 2 (.bin .and (.bin .sub (.var 2) (.int 1)) (.fld .bm))) (.cons (.ite (.var 2) (.cons (.augF .p .or (.bin .and (.var 2) (.cst 3))) .nil) (.cons (.augF .p .or (.cst 9)) .nil)) (.cons (.ite (.isNone 1) (.cons (.asgF .a (.var 2)) .nil) (.cons (.asgM (.var 3) (.var 2)) .nil)) .nil))))) }
noncomputable def md_opINCR : MethD := { nm := "opINCR", np := 2, vars := ["self", "x", "tbyte", "addr"], body := (.cons (.ite (.isNone 1) (.cons (.asgV 2 (.fld .a)) .nil) (.cons (.asgV 3 (.callV 1)) (.cons (.asgV 2 (.call1 5 (.var 3))) .nil))) (.cons (.augF .p .and (.inv (.bin .or (.cst 9) (.cst 3)))) (.cons (.asgV 2 (.bin .and (.bin .add (.var 2) (.int 1)) (.fld .bm))) (.cons (.ite (.var 2) (.cons (.augF .p .or (.bin .and (.var 2) (.cst 3))) .nil) (.cons (.augF .p .or (.cst 9)) .nil)) (.cons (.ite (.isNone 1) (.cons (.asgF .a (.var 2)) .nil) (.cons (.asgM (.var 3) (.var 2)) .nil)) .nil))))) }
noncomputable def md_opLDA : MethD := { nm := "opLDA", np := 2, vars := ["self", "x"], body := (.cons (.asgF .a (.call1 5 (.callV 1))) (.cons (.expr (.call1 23 (.fld .a))) .nil)) }
noncomputable def md_opLDY : MethD := { nm := "opLDY", np := 2, vars := ["self", "x"], body := (.cons (.asgF .y (.call1 5 (.callV 1))) (.cons (.expr (.call1 23 (.fld .y))) .nil)) }
noncomputable def md_opLDX : MethD := { nm := "opLDX", np := 2, vars := ["self", "y"], body := (.cons (.asgF .x (.call1 5 (.callV 1))) (.cons (.expr (.call1 23 (.fld .x))) .nil)) }
noncomputable def md_inst_not_implemented : MethD := { nm := "inst_not_implemented", np := 1, vars := ["self"], body := (.cons (.augF .pc .add (.int 1)) .nil) }
noncomputable def md_inst_0x00 : MethD := { nm := "inst_0x00", np := 1, vars := ["self", "pc"], body := (.cons (.asgV 1 (.bin .and (.bin .add (.fld .pc) (.int 1)) (.fld .am))) (.cons (.expr (.call1 21 (.var 1))) (.cons (.augF .p .or (.cst 6)) (.cons (.expr (.call1 19 (.bin .or (.bin .or (.fld .p) (.cst 6)) (.cst 5)))) (.cons (.augF .p .or (.cst 8)) (.cons (.asgF .pc (.call1 6 (.cst 2))) .nil)))))) }
noncomputable def md_inst_0x01 : MethD := { nm := "inst_0x01", np := 1, vars := ["self"], body := (.cons (.expr (.call1 24 (.mref 13))) (.cons (.augF .pc .add (.int 1)) .nil)) }
noncomputable def md_inst_0x05 : MethD := { nm := "inst_0x05", np := 1, vars := ["self"], body := (.cons (.expr (.call1 24 (.mref 10))) (.cons (.augF .pc .add (.int 1)) .nil)) }
noncomputable def md_inst_0x06 : MethD := { nm := "inst_0x06", np := 1, vars := ["self"], body := (.cons (.expr (.call1 25 (.mref 10))) (.cons (.augF .pc .add (.int 1)) .nil)) }
noncomputable def md_inst_0x08 : MethD := { nm := "inst_0x08", np := 1, vars := ["self"], body := (.cons (.expr (.call1 19 (.bin .or (.bin .or (.fld .p) (.cst 6)) (.cst 5)))) .nil) }
noncomputable def md_inst_0x09 : MethD := { nm := "inst_0x09", np := 1, vars := ["self"], body := (.cons (.expr (.call1 24 (.mref 8))) (.cons (.augF .pc .add (.int 1)) .nil)) }
noncomputable def md_inst_0x0a : MethD := { nm := "inst_0x0a", np := 1, vars := ["self"], body := (.cons (.expr (.call1 25 .none)) .nil) }
noncomputable def md_inst_0x0d : MethD := { nm := "inst_0x0d", np := 1, vars := ["self"], body := (.cons (.expr (.call1 24 (.mref 15))) (.cons (.augF .pc .add (.int 2)) .nil)) }
noncomputable def md_inst_0x0e : MethD := { nm := "inst_0x0e", np := 1, vars := ["self"], body := (.cons (.expr (.call1 25 (.mref 15))) (.cons (.augF .pc .add (.int 2)) .nil)) }
noncomputable def md_inst_0x10 : MethD := { nm := "inst_0x10", np := 1, vars := ["self"], body := (.cons (.expr (.call1 27 (.cst 3))) .nil) }
noncomputable def md_inst_0x11 : MethD := { nm := "inst_0x11", np := 1, vars := ["self"], body := (.cons (.expr (.call1 24 (.mref 14))) (.cons (.augF .pc .add (.int 1)) .nil)) }
noncomputable def md_inst_0x15 : MethD := { nm := "inst_0x15", np := 1, vars := ["self"], body := (.cons (.expr (.call1 24 (.mref 11))) (.cons (.augF .pc .add (.int 1)) .nil)) }
noncomputable def md_inst_0x16 : MethD := { nm := "inst_0x16", np := 1, vars := ["self"], body := (.cons (.expr (.call1 25 (.mref 11))) (.cons (.augF .pc .add (.int 1)) .nil)) }
noncomputable def md_inst_0x18 : MethD := { nm := "inst_0x18", np := 1, vars := ["self"], body := (.cons (.expr (.call1 29 (.cst 10))) .nil) }
noncomputable def md_inst_0x19 : MethD := { nm := "inst_0x19", np := 1, vars := ["self"], body := (.cons (.expr (.call1 24 (.mref 17))) (.cons (.augF .pc .add (.int 2)) .nil)) }
noncomputable def md_inst_0x1d : MethD := { nm := "inst_0x1d", np := 1, vars := ["self"], body := (.cons (.expr (.call1 24 (.mref 16))) (.cons (.augF .pc .add (.int 2)) .nil)) }
noncomputable def md_inst_0x1e : MethD := { nm := "inst_0x1e", np := 1, vars := ["self"], body := (.cons (.expr (.call1 25 (.mref 16))) (.cons (.augF .pc .add (.int 2)) .nil)) }
noncomputable def md_inst_0x20 : MethD := { nm := "inst_0x20", np := 1, vars := ["self"], body := (.cons (.expr (.call1 21 (.bin .and (.bin .add (.fld .pc) (.int 1)) (.fld .am)))) (.cons (.asgF .pc (.call1 6 (.fld .pc))) .nil)) }
noncomputable def md_inst_0x21 : MethD := { nm := "inst_0x21", np := 1, vars := ["self"], body := (.cons (.expr (.call1 31 (.mref 13))) (.cons (.augF .pc .add (.int 1)) .nil)) }
noncomputable def md_inst_0x24 : MethD := { nm := "inst_0x24", np := 1, vars := ["self"], body := (.cons (.expr (.call1 32 (.mref 10))) (.cons (.augF .pc .add (.int 1)) .nil)) }
noncomputable def md_inst_0x25 : MethD := { nm := "inst_0x25", np := 1, vars := ["self"], body := (.cons (.expr (.call1 31 (.mref 10))) (.cons (.augF .pc .add (.int 1)) .nil)) }
noncomputable def md_inst_0x26 : MethD := { nm := "inst_0x26", np := 1, vars := ["self"], body := (.cons (.expr (.call1 33 (.mref 10))) (.cons (.augF .pc .add (.int 1)) .nil)) }
noncomputable def md_inst_0x28 : MethD := { nm := "inst_0x28", np := 1, vars := ["self"], body := (.cons (.asgF .p (.bin .or (.bin .or (.call0 20) (.cst 6)) (.cst 5))) .nil) }
noncomputable def md_inst_0x29 : MethD := { nm := "inst_0x29", np := 1, vars := ["self"], body := (.cons (.expr (.call1 31 (.mref 8))) (.cons (.augF .pc .add (.int 1)) .nil)) }
noncomputable def md_inst_0x2a : MethD := { nm := "inst_0x2a", np := 1, vars := ["self"], body := (.cons (.expr (.call1 33 .none)) .nil) }
noncomputable def md_inst_0x2c : MethD := { nm := "inst_0x2c", np := 1, vars := ["self"], body := (.cons (.expr (.call1 32 (.mref 15))) (.cons (.augF .pc .add (.int 2)) .nil)) }
noncomputable def md_inst_0x2d : MethD := { nm := "inst_0x2d", np := 1, vars := ["self"], body := (.cons (.expr (.call1 31 (.mref 15))) (.cons (.augF .pc .add (.int 2)) .nil)) }
noncomputable def md_inst_0x2e : MethD := { nm := "inst_0x2e", np := 1, vars := ["self"], body := (.cons (.expr (.call1 33 (.mref 15))) (.cons (.augF .pc .add (.int 2)) .nil)) }
noncomputable def md_inst_0x30 : MethD := { nm := "inst_0x30", np := 1, vars := ["self"], body := (.cons (.expr (.call1 28 (.cst 3))) .nil) }
noncomputable def md_inst_0x31 : MethD := { nm := "inst_0x31", np := 1, vars := ["self"], body := (.cons (.expr (.call1 31 (.mref 14))) (.cons (.augF .pc .add (.int 1)) .nil)) }
noncomputable def md_inst_0x35 : MethD := { nm := "inst_0x35", np := 1, vars := ["self"], body := (.cons (.expr (.call1 31 (.mref 11))) (.cons (.augF .pc .add (.int 1)) .nil)) }
noncomputable def md_inst_0x36 : MethD := { nm := "inst_0x36", np := 1, vars := ["self"], body := (.cons (.expr (.call1 33 (.mref 11))) (.cons (.augF .pc .add (.int 1)) .nil)) }
noncomputable def md_inst_0x38 : MethD := { nm := "inst_0x38", np := 1, vars := ["self"], body := (.cons (.expr (.call1 30 (.cst 10))) .nil) }
noncomputable def md_inst_0x39 : MethD := { nm := "inst_0x39", np := 1, vars := ["self"], body := (.cons (.expr (.call1 31 (.mref 17))) (.cons (.augF .pc .add (.int 2)) .nil)) }
noncomputable def md_inst_0x3d : MethD := { nm := "inst_0x3d", np := 1, vars := ["self"], body := (.cons (.expr (.call1 31 (.mref 16))) (.cons (.augF .pc .add (.int 2)) .nil)) }
noncomputable def md_inst_0x3e : MethD := { nm := "inst_0x3e", np := 1, vars := ["self"], body := (.cons (.expr (.call1 33 (.mref 16))) (.cons (.augF .pc .add (.int 2)) .nil)) }
noncomputable def md_inst_0x40 : MethD := { nm := "inst_0x40", np := 1, vars := ["self"], body := (.cons (.asgF .p (.bin .or (.bin .or (.call0 20) (.cst 6)) (.cst 5))) (.cons (.asgF .pc (.call0 22)) .nil)) }
noncomputable def md_inst_0x41 : MethD := { nm := "inst_0x41", np := 1, vars := ["self"], body := (.cons (.expr (.call1 34 (.mref 13))) (.cons (.augF .pc .add (.int 1)) .nil)) }
noncomputable def md_inst_0x45 : MethD := { nm := "inst_0x45", np := 1, vars := ["self"], body := (.cons (.expr (.call1 34 (.mref 10))) (.cons (.augF .pc .add (.int 1)) .nil)) }
noncomputable def md_inst_0x46 : MethD := { nm := "inst_0x46", np := 1, vars := ["self"], body := (.cons (.expr (.call1 26 (.mref 10))) (.cons (.augF .pc .add (.int 1)) .nil)) }
noncomputable def md_inst_0x48 : MethD := { nm := "inst_0x48", np := 1, vars := ["self"], body := (.cons (.expr (.call1 19 (.fld .a))) .nil) }
noncomputable def md_inst_0x49 : MethD := { nm := "inst_0x49", np := 1, vars := ["self"], body := (.cons (.expr (.call1 34 (.mref 8))) (.cons (.augF .pc .add (.int 1)) .nil)) }
noncomputable def md_inst_0x4a : MethD := { nm := "inst_0x4a", np := 1, vars := ["self"], body := (.cons (.expr (.call1 26 .none)) .nil) }
noncomputable def md_inst_0x4c : MethD := { nm := "inst_0x4c", np := 1, vars := ["self"], body := (.cons (.asgF .pc (.call1 6 (.fld .pc))) .nil) }
noncomputable def md_inst_0x4d : MethD := { nm := "inst_0x4d", np := 1, vars := ["self"], body := (.cons (.expr (.call1 34 (.mref 15))) (.cons (.augF .pc .add (.int 2)) .nil)) }
noncomputable def md_inst_0x4e : MethD := { nm := "inst_0x4e", np := 1, vars := ["self"], body := (.cons (.expr (.call1 26 (.mref 15))) (.cons (.augF .pc .add (.int 2)) .nil)) }
noncomputable def md_inst_0x50 : MethD := { nm := "inst_0x50", np := 1, vars := ["self"], body := (.cons (.expr (.call1 27 (.cst 4))) .nil) }
noncomputable def md_inst_0x51 : MethD := { nm := "inst_0x51", np := 1, vars := ["self"], body := (.cons (.expr (.call1 34 (.mref 14))) (.cons (.augF .pc .add (.int 1)) .nil)) }
noncomputable def md_inst_0x55 : MethD := { nm := "inst_0x55", np := 1, vars := ["self"], body := (.cons (.expr (.call1 34 (.mref 11))) (.cons (.augF .pc .add (.int 1)) .nil)) }
noncomputable def md_inst_0x56 : MethD := { nm := "inst_0x56", np := 1, vars := ["self"], body := (.cons (.expr (.call1 26 (.mref 11))) (.cons (.augF .pc .add (.int 1)) .nil)) }
noncomputable def md_inst_0x58 : MethD := { nm := "inst_0x58", np := 1, vars := ["self"], body := (.cons (.expr (.call1 29 (.cst 8))) .nil) }
noncomputable def md_inst_0x59 : MethD := { nm := "inst_0x59", np := 1, vars := ["self"], body := (.cons (.expr (.call1 34 (.mref 17))) (.cons (.augF .pc .add (.int 2)) .nil)) }
noncomputable def md_inst_0x5d : MethD := { nm := "inst_0x5d", np := 1, vars := ["self"], body := (.cons (.expr (.call1 34 (.mref 16))) (.cons (.augF .pc .add (.int 2)) .nil)) }
noncomputable def md_inst_0x5e : MethD := { nm := "inst_0x5e", np := 1, vars := ["self"], body := (.cons (.expr (.call1 26 (.mref 16))) (.cons (.augF .pc .add (.int 2)) .nil)) }
noncomputable def md_inst_0x60 : MethD := { nm := "inst_0x60", np := 1, vars := ["self"], body := (.cons (.asgF .pc (.call0 22)) (.cons (.augF .pc .add (.int 1)) .nil)) }
noncomputable def md_inst_0x61 : MethD := { nm := "inst_0x61", np := 1, vars := ["self"], body := (.cons (.expr (.call1 35 (.mref 13))) (.cons (.augF .pc .add (.int 1)) .nil)) }
noncomputable def md_inst_0x65 : MethD := { nm := "inst_0x65", np := 1, vars := ["self"], body := (.cons (.expr (.call1 35 (.mref 10))) (.cons (.augF .pc .add (.int 1)) .nil)) }
noncomputable def md_inst_0x66 : MethD := { nm := "inst_0x66", np := 1, vars := ["self"], body := (.cons (.expr (.call1 36 (.mref 10))) (.cons (.augF .pc .add (.int 1)) .nil)) }
noncomputable def md_inst_0x68 : MethD := { nm := "inst_0x68", np := 1, vars := ["self"], body := (.cons (.asgF .a (.call0 20)) (.cons (.expr (.call1 23 (.fld .a))) .nil)) }
noncomputable def md_inst_0x69 : MethD := { nm := "inst_0x69", np := 1, vars := ["self"], body := (.cons (.expr (.call1 35 (.mref 8))) (.cons (.augF .pc .add (.int 1)) .nil)) }
noncomputable def md_inst_0x6a : MethD := { nm := "inst_0x6a", np := 1, vars := ["self"], body := (.cons (.expr (.call1 36 .none)) .nil) }
noncomputable def md_inst_0x6c : MethD := { nm := "inst_0x6c", np := 1, vars := ["self", "ta"], body := (.cons (.asgV 1 (.call1 6 (.fld .pc))) (.cons (.asgF .pc (.call1 7 (.var 1))) .nil)) }
noncomputable def md_inst_0x6d : MethD := { nm := "inst_0x6d", np := 1, vars := ["self"], body := (.cons (.expr (.call1 35 (.mref 15))) (.cons (.augF .pc .add (.int 2)) .nil)) }
noncomputable def md_inst_0x6e : MethD := { nm := "inst_0x6e", np := 1, vars := ["self"], body := (.cons (.expr (.call1 36 (.mref 15))) (.cons (.augF .pc .add (.int 2)) .nil)) }
noncomputable def md_inst_0x70 : MethD := { nm := "inst_0x70", np := 1, vars := ["self"], body := (.cons (.expr (.call1 28 (.cst 4))) .nil) }
noncomputable def md_inst_0x71 : MethD := { nm := "inst_0x71", np := 1, vars := ["self"], body := (.cons (.expr (.call1 35 (.mref 14))) (.cons (.augF .pc .add (.int 1)) .nil)) }
noncomputable def md_inst_0x75 : MethD := { nm := "inst_0x75", np := 1, vars := ["self"], body := (.cons (.expr (.call1 35 (.mref 11))) (.cons (.augF .pc .add (.int 1)) .nil)) }
noncomputable def md_inst_0x76 : MethD := { nm := "inst_0x76", np := 1, vars := ["self"], body := (.cons (.expr (.call1 36 (.mref 11))) (.cons (.augF .pc .add (.int 1)) .nil)) }
noncomputable def md_inst_0x78 : MethD := { nm := "inst_0x78", np := 1, vars := ["self"], body := (.cons (.expr (.call1 30 (.cst 8))) .nil) }
noncomputable def md_inst_0x79 : MethD := { nm := "inst_0x79", np := 1, vars := ["self"], body := (.cons (.expr (.call1 35 (.mref 17))) (.cons (.augF .pc .add (.int 2)) .nil)) }
noncomputable def md_inst_0x7d : MethD := { nm := "inst_0x7d", np := 1, vars := ["self"], body := (.cons (.expr (.call1 35 (.mref 16))) (.cons (.augF .pc .add (.int 2)) .nil)) }
noncomputable def md_inst_0x7e : MethD := { nm := "inst_0x7e", np := 1, vars := ["self"], body := (.cons (.expr (.call1 36 (.mref 16))) (.cons (.augF .pc .add (.int 2)) .nil)) }
noncomputable def md_inst_0x81 : MethD := { nm := "inst_0x81", np := 1, vars := ["self"], body := (.cons (.expr (.call1 37 (.mref 13))) (.cons (.augF .pc .add (.int 1)) .nil)) }
noncomputable def md_inst_0x84 : MethD := { nm := "inst_0x84", np := 1, vars := ["self"], body := (.cons (.expr (.call1 38 (.mref 10))) (.cons (.augF .pc .add (.int 1)) .nil)) }
noncomputable def md_inst_0x85 : MethD := { nm := "inst_0x85", np := 1, vars := ["self"], body := (.cons (.expr (.call1 37 (.mref 10))) (.cons (.augF .pc .add (.int 1)) .nil)) }
noncomputable def md_inst_0x86 : MethD := { nm := "inst_0x86", np := 1, vars := ["self"], body := (.cons (.expr (.call1 39 (.mref 10))) (.cons (.augF .pc .add (.int 1)) .nil)) }
noncomputable def md_inst_0x88 : MethD := { nm := "inst_0x88", np := 1, vars := ["self"], body := (.cons (.augF .y .sub (.int 1)) (.cons (.augF .y .and (.fld .bm)) (.cons (.expr (.call1 23 (.fld .y))) .nil))) }
noncomputable def md_inst_0x8a : MethD := { nm := "inst_0x8a", np := 1, vars := ["self"], body := (.cons (.asgF .a (.fld .x)) (.cons (.expr (.call1 23 (.fld .a))) .nil)) }
noncomputable def md_inst_0x8c : MethD := { nm := "inst_0x8c", np := 1, vars := ["self"], body := (.cons (.expr (.call1 38 (.mref 15))) (.cons (.augF .pc .add (.int 2)) .nil)) }
noncomputable def md_inst_0x8d : MethD := { nm := "inst_0x8d", np := 1, vars := ["self"], body := (.cons (.expr (.call1 37 (.mref 15))) (.cons (.augF .pc .add (.int 2)) .nil)) }
noncomputable def md_inst_0x8e : MethD := { nm := "inst_0x8e", np := 1, vars := ["self"], body := (.cons (.expr (.call1 39 (.mref 15))) (.cons (.augF .pc .add (.int 2)) .nil)) }
noncomputable def md_inst_0x90 : MethD := { nm := "inst_0x90", np := 1, vars := ["self"], body := (.cons (.expr (.call1 27 (.cst 10))) .nil) }
noncomputable def md_inst_0x91 : MethD := { nm := "inst_0x91", np := 1, vars := ["self"], body := (.cons (.expr (.call1 37 (.mref 14))) (.cons (.augF .pc .add (.int 1)) .nil)) }
noncomputable def md_inst_0x94 : MethD := { nm := "inst_0x94", np := 1, vars := ["self"], body := (.cons (.expr (.call1 38 (.mref 11))) (.cons (.augF .pc .add (.int 1)) .nil)) }
noncomputable def md_inst_0x95 : MethD := { nm := "inst_0x95", np := 1, vars := ["self"], body := (.cons (.expr (.call1 37 (.mref 11))) (.cons (.augF .pc .add (.int 1)) .nil)) }
noncomputable def md_inst_0x96 : MethD := { nm := "inst_0x96", np := 1, vars := ["self"], body := (.cons (.expr (.call1 39 (.mref 12))) (.cons (.augF .pc .add (.int 1)) .nil)) }
noncomputable def md_inst_0x98 : MethD := { nm := "inst_0x98", np := 1, vars := ["self"], body := (.cons (.asgF .a (.fld .y)) (.cons (.expr (.call1 23 (.fld .a))) .nil)) }
noncomputable def md_inst_0x99 : MethD := { nm := "inst_0x99", np := 1, vars := ["self"], body := (.cons (.expr (.call1 37 (.mref 17))) (.cons (.augF .pc .add (.int 2)) .nil)) }
noncomputable def md_inst_0x9a : MethD := { nm := "inst_0x9a", np := 1, vars := ["self"], body := (.cons (.asgF .sp (.fld .x)) .nil) }
noncomputable def md_inst_0x9d : MethD := { nm := "inst_0x9d", np := 1, vars := ["self"], body := (.cons (.expr (.call1 37 (.mref 16))) (.cons (.augF .pc .add (.int 2)) .nil)) }
noncomputable def md_inst_0xa0 : MethD := { nm := "inst_0xa0", np := 1, vars := ["self"], body := (.cons (.expr (.call1 45 (.mref 8))) (.cons (.augF .pc .add (.int 1)) .nil)) }
noncomputable def md_inst_0xa1 : MethD := { nm := "inst_0xa1", np := 1, vars := ["self"], body := (.cons (.expr (.call1 44 (.mref 13))) (.cons (.augF .pc .add (.int 1)) .nil)) }
noncomputable def md_inst_0xa2 : MethD := { nm := "inst_0xa2", np := 1, vars := ["self"], body := (.cons (.expr (.call1 46 (.mref 8))) (.cons (.augF .pc .add (.int 1)) .nil)) }
noncomputable def md_inst_0xa4 : MethD := { nm := "inst_0xa4", np := 1, vars := ["self"], body := (.cons (.expr (.call1 45 (.mref 10))) (.cons (.augF .pc .add (.int 1)) .nil)) }
noncomputable def md_inst_0xa5 : MethD := { nm := "inst_0xa5", np := 1, vars := ["self"], body := (.cons (.expr (.call1 44 (.mref 10))) (.cons (.augF .pc .add (.int 1)) .nil)) }
noncomputable def md_inst_0xa6 : MethD := { nm := "inst_0xa6", np := 1, vars := ["self"], body := (.cons (.expr (.call1 46 (.mref 10))) (.cons (.augF .pc .add (.int 1)) .nil)) }
noncomputable def md_inst_0xa8 : MethD := { nm := "inst_0xa8", np := 1, vars := ["self"], body := (.cons (.asgF .y (.fld .a)) (.cons (.expr (.call1 23 (.fld .y))) .nil)) }
noncomputable def md_inst_0xa9 : MethD := { nm := "inst_0xa9", np := 1, vars := ["self"], body := (.cons (.expr (.call1 44 (.mref 8))) (.cons (.augF .pc .add (.int 1)) .nil)) }
noncomputable def md_inst_0xaa : MethD := { nm := "inst_0xaa", np := 1, vars := ["self"], body := (.cons (.asgF .x (.fld .a)) (.cons (.expr (.call1 23 (.fld .x))) .nil)) }
noncomputable def md_inst_0xac : MethD := { nm := "inst_0xac", np := 1, vars := ["self"], body := (.cons (.expr (.call1 45 (.mref 15))) (.cons (.augF .pc .add (.int 2)) .nil)) }
noncomputable def md_inst_0xad : MethD := { nm := "inst_0xad", np := 1, vars := ["self"], body := (.cons (.expr (.call1 44 (.mref 15))) (.cons (.augF .pc .add (.int 2)) .nil)) }
noncomputable def md_inst_0xae : MethD := { nm := "inst_0xae", np := 1, vars := ["self"], body := (.cons (.expr (.call1 46 (.mref 15))) (.cons (.augF .pc .add (.int 2)) .nil)) }
noncomputable def md_inst_0xb0 : MethD := { nm := "inst_0xb0", np := 1, vars := ["self"], body := (.cons (.expr (.call1 28 (.cst 10))) .nil) }
noncomputable def md_inst_0xb1 : MethD := { nm := "inst_0xb1", np := 1, vars := ["self"], body := (.cons (.expr (.call1 44 (.mref 14))) (.cons (.augF .pc .add (.int 1)) .nil)) }
noncomputable def md_inst_0xb4 : MethD := { nm := "inst_0xb4", np := 1, vars := ["self"], body := (.cons (.expr (.call1 45 (.mref 11))) (.cons (.augF .pc .add (.int 1)) .nil)) }
noncomputable def md_inst_0xb5 : MethD := { nm := "inst_0xb5", np := 1, vars := ["self"], body := (.cons (.expr (.call1 44 (.mref 11))) (.cons (.augF .pc .add (.int 1)) .nil)) }
noncomputable def md_inst_0xb6 : MethD := { nm := "inst_0xb6", np := 1, vars := ["self"], body := (.cons (.expr (.call1 46 (.mref 12))) (.cons (.augF .pc .add (.int 1)) .nil)) }
noncomputable def md_inst_0xb8 : MethD := { nm := "inst_0xb8", np := 1, vars := ["self"], body := (.cons (.expr (.call1 29 (.cst 4))) .nil) }
noncomputable def md_inst_0xb9 : MethD := { nm := "inst_0xb9", np := 1, vars := ["self"], body := (.cons (.expr (.call1 44 (.mref 17))) (.cons (.augF .pc .add (.int 2)) .nil)) }
noncomputable def md_inst_0xba : MethD := { nm := "inst_0xba", np := 1, vars := ["self"], body := (.cons (.asgF .x (.fld .sp)) (.cons (.expr (.call1 23 (.fld .x))) .nil)) }
noncomputable def md_inst_0xbc : MethD := { nm := "inst_0xbc", np := 1, vars := ["self"], body := (.cons (.expr (.call1 45 (.mref 16))) (.cons (.augF .pc .add (.int 2)) .nil)) }
noncomputable def md_inst_0xbd : MethD := { nm := "inst_0xbd", np := 1, vars := ["self"], body := (.cons (.expr (.call1 44 (.mref 16))) (.cons (.augF .pc .add (.int 2)) .nil)) }
noncomputable def md_inst_0xbe : MethD := { nm := "inst_0xbe", np := 1, vars := ["self"], body := (.cons (.expr (.call1 46 (.mref 17))) (.cons (.augF .pc .add (.int 2)) .nil)) }
noncomputable def md_inst_0xc0 : MethD := { nm := "inst_0xc0", np := 1, vars := ["self"], body := (.cons (.expr (.call2 40 (.mref 8) (.fld .y))) (.cons (.augF .pc .add (.int 1)) .nil)) }
noncomputable def md_inst_0xc1 : MethD := { nm := "inst_0xc1", np := 1, vars := ["self"], body := (.cons (.expr (.call2 40 (.mref 13) (.fld .a))) (.cons (.augF .pc .add (.int 1)) .nil)) }
noncomputable def md_inst_0xc4 : MethD := { nm := "inst_0xc4", np := 1, vars := ["self"], body := (.cons (.expr (.call2 40 (.mref 10) (.fld .y))) (.cons (.augF .pc .add (.int 1)) .nil)) }
noncomputable def md_inst_0xc5 : MethD := { nm := "inst_0xc5", np := 1, vars := ["self"], body := (.cons (.expr (.call2 40 (.mref 10) (.fld .a))) (.cons (.augF .pc .add (.int 1)) .nil)) }
noncomputable def md_inst_0xc6 : MethD := { nm := "inst_0xc6", np := 1, vars := ["self"], body := (.cons (.expr (.call1 42 (.mref 10))) (.cons (.augF .pc .add (.int 1)) .nil)) }
noncomputable def md_inst_0xc8 : MethD := { nm := "inst_0xc8", np := 1, vars := ["self"], body := (.cons (.augF .y .add (.int 1)) (.cons (.augF .y .and (.fld .bm)) (.cons (.expr (.call1 23 (.fld .y))) .nil))) }
noncomputable def md_inst_0xc9 : MethD := { nm := "inst_0xc9", np := 1, vars := ["self"], body := (.cons (.expr (.call2 40 (.mref 8) (.fld .a))) (.cons (.augF .pc .add (.int 1)) .nil)) }
noncomputable def md_inst_0xca : MethD := { nm := "inst_0xca", np := 1, vars := ["self"], body := (.cons (.augF .x .sub (.int 1)) (.cons (.augF .x .and (.fld .bm)) (.cons (.expr (.call1 23 (.fld .x))) .nil))) }
noncomputable def md_inst_0xcc : MethD := { nm := "inst_0xcc", np := 1, vars := ["self"], body := (.cons (.expr (.call2 40 (.mref 15) (.fld .y))) (.cons (.augF .pc .add (.int 2)) .nil)) }
noncomputable def md_inst_0xcd : MethD := { nm := "inst_0xcd", np := 1, vars := ["self"], body := (.cons (.expr (.call2 40 (.mref 15) (.fld .a))) (.cons (.augF .pc .add (.int 2)) .nil)) }
noncomputable def md_inst_0xce : MethD := { nm := "inst_0xce", np := 1, vars := ["self"], body := (.cons (.expr (.call1 42 (.mref 15))) (.cons (.augF .pc .add (.int 2)) .nil)) }
noncomputable def md_inst_0xd0 : MethD := { nm := "inst_0xd0", np := 1, vars := ["self"], body := (.cons (.expr (.call1 27 (.cst 9))) .nil) }
noncomputable def md_inst_0xd1 : MethD := { nm := "inst_0xd1", np := 1, vars := ["self"], body := (.cons (.expr (.call2 40 (.mref 14) (.fld .a))) (.cons (.augF .pc .add (.int 1)) .nil)) }
noncomputable def md_inst_0xd5 : MethD := { nm := "inst_0xd5", np := 1, vars := ["self"], body := (.cons (.expr (.call2 40 (.mref 11) (.fld .a))) (.cons (.augF .pc .add (.int 1)) .nil)) }
noncomputable def md_inst_0xd6 : MethD := { nm := "inst_0xd6", np := 1, vars := ["self"], body := (.cons (.expr (.call1 42 (.mref 11))) (.cons (.augF .pc .add (.int 1)) .nil)) }
noncomputable def md_inst_0xd8 : MethD := { nm := "inst_0xd8", np := 1, vars := ["self"], body := (.cons (.expr (.call1 29 (.cst 7))) .nil) }
noncomputable def md_inst_0xd9 : MethD := { nm := "inst_0xd9", np := 1, vars := ["self"], body := (.cons (.expr (.call2 40 (.mref 17) (.fld .a))) (.cons (.augF .pc .add (.int 2)) .nil)) }
noncomputable def md_inst_0xdd : MethD := { nm := "inst_0xdd", np := 1, vars := ["self"], body := (.cons (.expr (.call2 40 (.mref 16) (.fld .a))) (.cons (.augF .pc .add (.int 2)) .nil)) }
noncomputable def md_inst_0xde : MethD := { nm := "inst_0xde", np := 1, vars := ["self"], body := (.cons (.expr (.call1 42 (.mref 16))) (.cons (.augF .pc .add (.int 2)) .nil)) }
noncomputable def md_inst_0xe0 : MethD := { nm := "inst_0xe0", np := 1, vars := ["self"], body := (.cons (.expr (.call2 40 (.mref 8) (.fld .x))) (.cons (.augF .pc .add (.int 1)) .nil)) }
noncomputable def md_inst_0xe1 : MethD := { nm := "inst_0xe1", np := 1, vars := ["self"], body := (.cons (.expr (.call1 41 (.mref 13))) (.cons (.augF .pc .add (.int 1)) .nil)) }
noncomputable def md_inst_0xe4 : MethD := { nm := "inst_0xe4", np := 1, vars := ["self"], body := (.cons (.expr (.call2 40 (.mref 10) (.fld .x))) (.cons (.augF .pc .add (.int 1)) .nil)) }
noncomputable def md_inst_0xe5 : MethD := { nm := "inst_0xe5", np := 1, vars := ["self"], body := (.cons (.expr (.call1 41 (.mref 10))) (.cons (.augF .pc .add (.int 1)) .nil)) }
noncomputable def md_inst_0xe6 : MethD := { nm := "inst_0xe6", np := 1, vars := ["self"], body := (.cons (.expr (.call1 43 (.mref 10))) (.cons (.augF .pc .add (.int 1)) .nil)) }
noncomputable def md_inst_0xe8 : MethD := { nm := "inst_0xe8", np := 1, vars := ["self"], body := (.cons (.augF .x .add (.int 1)) (.cons (.augF .x .and (.fld .bm)) (.cons (.expr (.call1 23 (.fld .x))) .nil))) }
noncomputable def md_inst_0xe9 : MethD := { nm := "inst_0xe9", np := 1, vars := ["self"], body := (.cons (.expr (.call1 41 (.mref 8))) (.cons (.augF .pc .add (.int 1)) .nil)) }
noncomputable def md_inst_0xea : MethD := { nm := "inst_0xea", np := 1, vars := ["self"], body := (.cons .pass .nil) }
noncomputable def md_inst_0xec : MethD := { nm := "inst_0xec", np := 1, vars := ["self"], body := (.cons (.expr (.call2 40 (.mref 15) (.fld .x))) (.cons (.augF .pc .add (.int 2)) .nil)) }
noncomputable def md_inst_0xed : MethD := { nm := "inst_0xed", np := 1, vars := ["self"], body := (.cons (.expr (.call1 41 (.mref 15))) (.cons (.augF .pc .add (.int 2)) .nil)) }
noncomputable def md_inst_0xee : MethD := { nm := "inst_0xee", np := 1, vars := ["self"], body := (.cons (.expr (.call1 43 (.mref 15))) (.cons (.augF .pc .add (.int 2)) .nil)) }
noncomputable def md_inst_0xf0 : MethD := { nm := "inst_0xf0", np := 1, vars := ["self"], body := (.cons (.expr (.call1 28 (.cst 9))) .nil) }
noncomputable def md_inst_0xf1 : MethD := { nm := "inst_0xf1", np := 1, vars := ["self"], body := (.cons (.expr (.call1 41 (.mref 14))) (.cons (.augF .pc .add (.int 1)) .nil)) }
noncomputable def md_inst_0xf5 : MethD := { nm := "inst_0xf5", np := 1, vars := ["self"], body := (.cons (.expr (.call1 41 (.mref 11))) (.cons (.augF .pc .add (.int 1)) .nil)) }
noncomputable def md_inst_0xf6 : MethD := { nm := "inst_0xf6", np := 1, vars := ["self"], body := (.cons (.expr (.call1 43 (.mref 11))) (.cons (.augF .pc .add (.int 1)) .nil)) }
noncomputable def md_inst_0xf8 : MethD := { nm := "inst_0xf8", np := 1, vars := ["self"], body := (.cons (.expr (.call1 30 (.cst 7))) .nil) }
noncomputable def md_inst_0xf9 : MethD := { nm := "inst_0xf9", np := 1, vars := ["self"], body := (.cons (.expr (.call1 41 (.mref 17))) (.cons (.augF .pc .add (.int 2)) .nil)) }
noncomputable def md_inst_0xfd : MethD := { nm := "inst_0xfd", np := 1, vars := ["self"], body := (.cons (.expr (.call1 41 (.mref 16))) (.cons (.augF .pc .add (.int 2)) .nil)) }
noncomputable def md_inst_0xfe : MethD := { nm := "inst_0xfe", np := 1, vars := ["self"], body := (.cons (.expr (.call1 43 (.mref 16))) (.cons (.augF .pc .add (.int 2)) .nil)) }
noncomputable def theP : List MethD := [md_init, md_step, md_reset, md_irq, md_nmi, md_ByteAt, md_WordAt, md_WrapAt, md_ProgramCounter, md_ImmediateByte, md_ZeroPageAddr, md_ZeroPageXAddr, md_ZeroPageYAddr, md_IndirectXAddr, md_IndirectYAddr, md_AbsoluteAddr, md_AbsoluteXAddr, md_AbsoluteYAddr, md_BranchRelAddr, md_stPush, md_stPop, md_stPushWord, md_stPopWord, md_FlagsNZ, md_opORA, md_opASL, md_opLSR, md_opBCL, md_opBST, md_opCLR, md_opSET, md_opAND, md_opBIT, md_opROL, md_opEOR, md_opADC, md_opROR, md_opSTA, md_opSTY, md_opSTX, md_opCMPR, md_opSBC, md_opDECR, md_opINCR, md_opLDA, md_opLDY, md_opLDX, md_inst_not_implemented, md_inst_0x00, md_inst_0x01, md_inst_0x05, md_inst_0x06, md_inst_0x08, md_inst_0x09, md_inst_0x0a, md_inst_0x0d, md_inst_0x0e, md_inst_0x10, md_inst_0x11, md_inst_0x15, md_inst_0x16, md_inst_0x18, md_inst_0x19, md_inst_0x1d, md_inst_0x1e, md_inst_0x20, md_inst_0x21, md_inst_0x24, md_inst_0x25, md_inst_0x26, md_inst_0x28, md_inst_0x29, md_inst_0x2a, md_inst_0x2c, md_inst_0x2d, md_inst_0x2e, md_inst_0x30, md_inst_0x31, md_inst_0x35, md_inst_0x36, md_inst_0x38, md_inst_0x39, md_inst_0x3d, md_inst_0x3e, md_inst_0x40, md_inst_0x41, md_inst_0x45, md_inst_0x46, md_inst_0x48, md_inst_0x49, md_inst_0x4a, md_inst_0x4c, md_inst_0x4d, md_inst_0x4e, md_inst_0x50, md_inst_0x51, md_inst_0x55, md_inst_0x56, md_inst_0x58, md_inst_0x59, md_inst_0x5d, md_inst_0x5e, md_inst_0x60, md_inst_0x61, md_inst_0x65, md_inst_0x66, md_inst_0x68, md_inst_0x69, md_inst_0x6a, md_inst_0x6c, md_inst_0x6d, md_inst_0x6e, md_inst_0x70, md_inst_0x71, md_inst_0x75, md_inst_0x76, md_inst_0x78, md_inst_0x79, md_inst_0x7d, md_inst_0x7e, md_inst_0x81, md_inst_0x84, md_inst_0x85, md_inst_0x86, md_inst_0x88, md_inst_0x8a, md_inst_0x8c, md_inst_0x8d, md_inst_0x8e, md_inst_0x90, md_inst_0x91, md_inst_0x94, md_inst_0x95, md_inst_0x96, md_inst_0x98, md_inst_0x99, md_inst_0x9a, md_inst_0x9d, md_inst_0xa0, md_inst_0xa1, md_inst_0xa2, md_inst_0xa4, md_inst_0xa5, md_inst_0xa6, md_inst_0xa8, md_inst_0xa9, md_inst_0xaa, md_inst_0xac, md_inst_0xad, md_inst_0xae, md_inst_0xb0, md_inst_0xb1, md_inst_0xb4, md_inst_0xb5, md_inst_0xb6, md_inst_0xb8, md_inst_0xb9, md_inst_0xba, md_inst_0xbc, md_inst_0xbd, md_inst_0xbe, md_inst_0xc0, md_inst_0xc1, md_inst_0xc4, md_inst_0xc5, md_inst_0xc6, md_inst_0xc8, md_inst_0xc9, md_inst_0xca, md_inst_0xcc, md_inst_0xcd, md_inst_0xce, md_inst_0xd0, md_inst_0xd1, md_inst_0xd5, md_inst_0xd6, md_inst_0xd8, md_inst_0xd9, md_inst_0xdd, md_inst_0xde, md_inst_0xe0, md_inst_0xe1, md_inst_0xe4, md_inst_0xe5, md_inst_0xe6, md_inst_0xe8, md_inst_0xe9, md_inst_0xea, md_inst_0xec, md_inst_0xed, md_inst_0xee, md_inst_0xf0, md_inst_0xf1, md_inst_0xf5, md_inst_0xf6, md_inst_0xf8, md_inst_0xf9, md_inst_0xfd, md_inst_0xfe]
noncomputable def theCsts : List (Str × Int) := [("RESET", 65532), ("NMI", 65530), ("IRQ", 65534), ("NEGATIVE", 128), ("OVERFLOW", 64), ("UNUSED", 32), ("BREAK", 16), ("DECIMAL", 8), ("INTERRUPT", 4), ("ZERO", 2), ("CARRY", 1), ("BYTE_WIDTH", 8), ("ADDR_WIDTH", 16)]
noncomputable def tab_cycletime : List Int := [7, 6, 0, 0, 0, 3, 5, 0, 3, 2, 2, 0, 0, 4, 6, 0, 2, 5, 0, 0, 0, 4, 6, 0, 2, 4, 0, 0, 0, 4, 7, 0, 6, 6, 0, 0, 3, 3, 5, 0, 4, 2, 2, 0, 4, 4, 6, 0, 2, 5, 0, 0, 0, 4, 6, 0, 2, 4, 0, 0, 0, 4, 7, 0, 6, 6, 0, 0, 0, 3, 5, 0, 3, 2, 2, 0, 3, 4, 6, 0, 2, 5, 0, 0, 0, 4, 6, 0, 2, 4, 0, 0, 0, 4, 7, 0, 6, 6, 0, 0, 0, 3, 5, 0, 4, 2, 2, 0, 5, 4, 6, 0, 2, 5, 0, 0, 0, 4, 6, 0, 2, 4, 0, 0, 0, 4, 7, 0, 0, 6, 0, 0, 3, 3, 3, 0, 2, 0, 2, 0, 4, 4, 4, 0, 2, 6, 0, 0, 4, 4, 4, 0, 2, 5, 2, 0, 0, 5, 0, 0, 2, 6, 2, 0, 3, 3, 3, 0, 2, 2, 2, 0, 4, 4, 4, 0, 2, 5, 0, 0, 4, 4, 4, 0, 2, 4, 2, 0, 4, 4, 4, 0, 2, 6, 0, 0, 3, 3, 5, 0, 2, 2, 2, 0, 4, 4, 3, 0, 2, 5, 0, 0, 0, 4, 6, 0, 2, 4, 0, 0, 0, 4, 7, 0, 2, 6, 0, 0, 3, 3, 5, 0, 2, 2, 2, 0, 4, 4, 6, 0, 2, 5, 0, 0, 0, 4, 6, 0, 2, 4, 0, 0, 0, 4, 7, 0]
noncomputable def tab_extracycles : List Int := [0, 0, 0, 0, 0, 0, 0, 0, 0, 0, 0, 0, 0, 0, 0, 0, 2, 1, 0, 0, 0, 0, 0, 0, 0, 1, 0, 0, 0, 1, 0, 0, 0, 0, 0, 0, 0, 0, 0, 0, 0, 0, 0, 0, 0, 0, 0, 0, 2, 1, 0, 0, 0, 0, 0, 0, 0, 1, 0, 0, 0, 1, 0, 0, 0, 0, 0, 0, 0, 0, 0, 0, 0, 0, 0, 0, 0, 0, 0, 0, 2, 1, 0, 0, 0, 0, 0, 0, 0, 1, 0, 0, 0, 1, 0, 0, 0, 0, 0, 0, 0, 0, 0, 0, 0, 0, 0, 0, 0, 0, 0, 0, 2, 1, 0, 0, 0, 0, 0, 0, 0, 1, 0, 0, 0, 1, 0, 0, 0, 0, 0, 0, 0, 0, 0, 0, 0, 0, 0, 0, 0, 0, 0, 0, 2, 0, 0, 0, 0, 0, 0, 0, 0, 0, 0, 0, 0, 0, 0, 0, 0, 0, 0, 0, 0, 0, 0, 0, 0, 0, 0, 0, 0, 0, 0, 0, 2, 1, 0, 0, 0, 0, 0, 0, 0, 1, 0, 0, 1, 1, 1, 0, 0, 0, 0, 0, 0, 0, 0, 0, 0, 0, 0, 0, 0, 0, 0, 0, 2, 1, 0, 0, 0, 0, 0, 0, 0, 1, 0, 0, 0, 1, 0, 0, 0, 0, 0, 0, 0, 0, 0, 0, 0, 0, 0, 0, 0, 0, 0, 0, 2, 1, 0, 0, 0, 0, 0, 0, 0, 1, 0, 0, 0, 1, 0, 0]
noncomputable def theTabs : List (Str × List Int) := [("cycletime", tab_cycletime), ("extracycles", tab_extracycles)]
noncomputable def theInstr : List Nat := [48, 49, 47, 47, 47, 50, 51, 47, 52, 53, 54, 47, 47, 55, 56, 47, 57, 58, 47, 47, 47, 59, 60, 47, 61, 62, 47, 47, 47, 63, 64, 47, 65, 66, 47, 47, 67, 68, 69, 47, 70, 71, 72, 47, 73, 74, 75, 47, 76, 77, 47, 47, 47, 78, 79, 47, 80, 81, 47, 47, 47, 82, 83, 47, 84, 85, 47, 47, 47, 86, 87, 47, 88, 89, 90, 47, 91, 92, 93, 47, 94, 95, 47, 47, 47, 96, 97, 47, 98, 99, 47, 47, 47, 100, 101, 47, 102, 103, 47, 47, 47, 104, 105, 47, 106, 107, 108, 47, 109, 110, 111, 47, 112, 113, 47, 47, 47, 114, 115, 47, 116, 117, 47, 47, 47, 118, 119, 47, 47, 120, 47, 47, 121, 122, 123, 47, 124, 47, 125, 47, 126, 127, 128, 47, 129, 130, 47, 47, 131, 132, 133, 47, 134, 135, 136, 47, 47, 137, 47, 47, 138, 139, 140, 47, 141, 142, 143, 47, 144, 145, 146, 47, 147, 148, 149, 47, 150, 151, 47, 47, 152, 153, 154, 47, 155, 156, 157, 47, 158, 159, 160, 47, 161, 162, 47, 47, 163, 164, 165, 47, 166, 167, 168, 47, 169, 170, 171, 47, 172, 173, 47, 47, 47, 174, 175, 47, 176, 177, 47, 47, 47, 178, 179, 47, 180, 181, 47, 47, 182, 183, 184, 47, 185, 186, 187, 47, 188, 189, 190, 47, 191, 192, 47, 47, 47, 193, 194, 47, 195, 196, 47, 47, 47, 197, 198, 47]
noncomputable def cls : Cls := { P := theP, csts := theCsts, tabs := theTabs, instrN := "instruct", instr := theInstr }
noncomputable def iInit : Nat := 0
noncomputable def i_step : Nat := 1
noncomputable def i_irq : Nat := 3
noncomputable def i_nmi : Nat := 4
noncomputable def i_reset : Nat := 2
-- law: 0 script, 1 drawn, 2 memory, 3 place, 4 number, 5 other, 6 one, 7 two, 8 turn, 9 kind, 10 old, 11 begun
noncomputable def s_law_0 : LS := (.asg 1 (.slc (.var 0) .none (.int 40)))
noncomputable def s_law_1 : LS := (.newl 2 (.bin .mul (.comp (.bin .mod (.bin .add (.bin .mul (.int 83) (.var 12)) (.int 7)) (.int 256)) [] (.rng (.int 256))) (.int 256)))
noncomputable def s_law_2 : LS := (.slp 2 (.int 65530) (.int 65536) (.disp (.cons (.int 16) (.cons (.int 64) (.cons (.int 0) (.cons (.int 3) (.cons (.int 0) (.cons (.int 80) .nil))))))))
noncomputable def s_law_3 : LS := (.forE [3, 4] (.var 1) (.cons (.sub 2 (.bin .add (.int 512) (.var 3)) (.bin .mod (.bin .add (.bin .fdiv (.var 4) (.int 8)) (.bin .mul (.int 37) (.var 3))) (.int 256))) .nil))
noncomputable def s_law_4 : LS := (.newl 5 (.slc (.own 2) .none .none))
noncomputable def s_law_5 : LS := (.mk 6 2 (.int 512))
noncomputable def s_law_6 : LS := (.mk 7 5 (.int 512))
noncomputable def s_law_7 : LS := (.for (.one 8) (.rng (.int 40)) (.cons (.asg 9 (.ife (.cmp .lt (.var 8) (.len (.var 1))) (.bin .mod (.idx (.var 1) (.var 8)) (.int 8)) (.int 0))) (.cons (.ite (.cmp .gt (.attr 6 .pc) (.int 65530)) (.cons .brk .nil) .nil) (.cons (.ev 6 (.var 9) 3 4 1) (.cons (.mv 10 7) (.cons (.mk 7 5 (.attr 10 .pc)) (.cons (.asgT false [.attr 7 .a, .attr 7 .x, .attr 7 .y, .attr 7 .sp, .attr 7 .p] (.cons (.attr 10 .a) (.cons (.attr 10 .x) (.cons (.attr 10 .y) (.cons (.attr 10 .sp) (.cons (.attr 10 .p) .nil)))))) (.cons (.setAt 7 .cyc (.attr 10 .cyc)) (.cons (.ev 7 (.var 9) 3 4 1) (.cons (.ite (.cmp .ne (.told 6) (.told 7)) (.cons (.ret (.bool false)) .nil) .nil) .nil))))))))))
noncomputable def s_law_8 : LS := (.ite (.cmp .ne (.own 2) (.own 5)) (.cons (.ret (.bool false)) .nil) .nil)
noncomputable def s_law_9 : LS := (.mk 11 5 .none)
noncomputable def s_law_10 : LS := (.ite (.cmp .ne (.told 11) (.tup (.cons (.bin .add (.idx (.own 5) (.int 65532)) (.bin .mul (.int 256) (.idx (.own 5) (.int 65533)))) (.cons (.int 0) (.cons (.int 0) (.cons (.int 0) (.cons (.int 255) (.cons (.int 48) (.cons (.int 0) .nil))))))))) (.cons (.ret (.bool false)) .nil) .nil)
noncomputable def s_law_11 : LS := (.step 6 2)
noncomputable def s_law_12 : LS := (.ite (.or (.cmp .ne (.told 6) (.tup (.cons (.int 512) (.cons (.int 0) (.cons (.int 0) (.cons (.int 0) (.cons (.int 255) (.cons (.int 48) (.cons (.int 0) .nil))))))))) (.cmp .ne (.own 2) (.own 5))) (.cons (.ret (.bool false)) .nil) .nil)
noncomputable def s_law_13 : LS := (.mk 7 5 (.int 512))
noncomputable def s_law_14 : LS := (.for (.one 8) (.rng (.int 8)) (.cons (.ite (.cmp .gt (.attr 6 .pc) (.int 65530)) (.cons .brk .nil) .nil) (.cons (.step 6 1) (.cons (.step 7 1) (.cons (.ite (.cmp .ne (.told 6) (.told 7)) (.cons (.ret (.bool false)) .nil) .nil) .nil)))))
noncomputable def s_law_15 : LS := (.ret (.cmp .eq (.own 2) (.own 5)))
noncomputable def fn_law : FnD := { nm := "law", np := 1, vars := ["script", "drawn", "memory", "place", "number", "other", "one", "two", "turn", "kind", "old", "begun"], body := (.cons s_law_0 (.cons s_law_1 (.cons s_law_2 (.cons s_law_3 (.cons s_law_4 (.cons s_law_5 (.cons s_law_6 (.cons s_law_7 (.cons s_law_8 (.cons s_law_9 (.cons s_law_10 (.cons s_law_11 (.cons s_law_12 (.cons s_law_13 (.cons s_law_14 (.cons s_law_15 .nil)))))))))))))))) }
noncomputable def theF : List FnD := []
noncomputable def theFuel : Nat := 100
end Mine

end
section
open PySem PySem.W PyProof.Rows
set_option maxRecDepth 100000
set_option maxHeartbeats 0
namespace Mine
noncomputable def mainEs (P : Params) : List DictEntry := [entOf P "__name__" 165 (.str "law_lr0005_04" 2242), entOf P "__doc__" 166 (.none), entOf P "__package__" 167 (.none), entOf P "__loader__" 168 (.builtin "__main__.__loader__#opaque"), entOf P "__spec__" 169 (.none), entOf P "__annotations__" 170 (.ref 6), entOf P "__builtins__" 171 (.ref 4), entOf P "__file__" 173 (.str "/claim/cut.py" 172), entOf P "__cached__" 174 (.none), entOf P "MPU" 2241 (.ref 1421), entOf P "_law_told" 2250 (.ref 1432), entOf P "_law_event" 2258 (.ref 1439), entOf P "law" 2264 (.ref 1444)]
noncomputable def nsEs (P : Params) : List DictEntry := [entOf P "__module__" 196 (.str "py65.devices.mpu6502" 187), entOf P "__firstlineno__" 200 (.int (2) 199), entOf P "RESET" 202 (.int (65532) 201), entOf P "NMI" 204 (.int (65530) 203), entOf P "IRQ" 206 (.int (65534) 205), entOf P "NEGATIVE" 208 (.int (128) 207), entOf P "OVERFLOW" 210 (.int (64) 209), entOf P "UNUSED" 212 (.int (32) 211), entOf P "BREAK" 214 (.int (16) 213), entOf P "DECIMAL" 216 (.int (8) 215), entOf P "INTERRUPT" 218 (.int (4) 217), entOf P "ZERO" 220 (.int (2) 219), entOf P "CARRY" 222 (.int (1) 221), entOf P "BYTE_WIDTH" 224 (.int (8) 223), entOf P "BYTE_FORMAT" 226 (.str "%02x" 225), entOf P "ADDR_WIDTH" 228 (.int (16) 227), entOf P "ADDR_FORMAT" 230 (.str "%04x" 229), entOf P "__init__" 240 (.ref 29), entOf P "step" 248 (.ref 36), entOf P "reset" 255 (.ref 43), entOf P "irq" 262 (.ref 50), entOf P "nmi" 269 (.ref 57), entOf P "ByteAt" 277 (.ref 64), entOf P "WordAt" 285 (.ref 71), entOf P "WrapAt" 295 (.ref 78), entOf P "ProgramCounter" 302 (.ref 85), entOf P "ImmediateByte" 309 (.ref 92), entOf P "ZeroPageAddr" 316 (.ref 99), entOf P "ZeroPageXAddr" 323 (.ref 106), entOf P "ZeroPageYAddr" 330 (.ref 113), entOf P "IndirectXAddr" 337 (.ref 120), entOf P "IndirectYAddr" 346 (.ref 127), entOf P "AbsoluteAddr" 353 (.ref 134), entOf P "AbsoluteXAddr" 362 (.ref 141), entOf P "AbsoluteYAddr" 371 (.ref 148), entOf P "BranchRelAddr" 379 (.ref 155), entOf P "stPush" 387 (.ref 162), entOf P "stPop" 394 (.ref 169), entOf P "stPushWord" 402 (.ref 176), entOf P "stPopWord" 410 (.ref 183), entOf P "FlagsNZ" 418 (.ref 190), entOf P "opORA" 426 (.ref 197), entOf P "opASL" 436 (.ref 204), entOf P "opLSR" 446 (.ref 211), entOf P "opBCL" 454 (.ref 218), entOf P "opBST" 462 (.ref 225), entOf P "opCLR" 470 (.ref 232), entOf P "opSET" 478 (.ref 239), entOf P "opAND" 486 (.ref 246), entOf P "opBIT" 495 (.ref 253), entOf P "opROL" 505 (.ref 260), entOf P "opEOR" 513 (.ref 267), entOf P "opADC" 531 (.ref 274), entOf P "opROR" 541 (.ref 281), entOf P "opSTA" 549 (.ref 288), entOf P "opSTY" 557 (.ref 295), entOf P "opSTX" 565 (.ref 302), entOf P "opCMPR" 575 (.ref 309), entOf P "opSBC" 592 (.ref 316), entOf P "opDECR" 602 (.ref 323), entOf P "opINCR" 612 (.ref 330), entOf P "opLDA" 620 (.ref 337), entOf P "opLDY" 628 (.ref 344), entOf P "opLDX" 636 (.ref 351), entOf P "inst_not_implemented" 643 (.ref 358), entOf P "inst_0x00" 651 (.ref 365), entOf P "inst_0x01" 658 (.ref 372), entOf P "inst_0x05" 665 (.ref 379), entOf P "inst_0x06" 672 (.ref 386), entOf P "inst_0x08" 679 (.ref 393), entOf P "inst_0x09" 686 (.ref 400), entOf P "inst_0x0a" 693 (.ref 407), entOf P "inst_0x0d" 700 (.ref 414), entOf P "inst_0x0e" 707 (.ref 421), entOf P "inst_0x10" 714 (.ref 428), entOf P "inst_0x11" 721 (.ref 435), entOf P "inst_0x15" 728 (.ref 442), entOf P "inst_0x16" 735 (.ref 449), entOf P "inst_0x18" 742 (.ref 456), entOf P "inst_0x19" 749 (.ref 463), entOf P "inst_0x1d" 756 (.ref 470), entOf P "inst_0x1e" 763 (.ref 477), entOf P "inst_0x20" 770 (.ref 484), entOf P "inst_0x21" 777 (.ref 491), entOf P "inst_0x24" 784 (.ref 498), entOf P "inst_0x25" 791 (.ref 505), entOf P "inst_0x26" 798 (.ref 512), entOf P "inst_0x28" 805 (.ref 519), entOf P "inst_0x29" 812 (.ref 526), entOf P "inst_0x2a" 819 (.ref 533), entOf P "inst_0x2c" 826 (.ref 540), entOf P "inst_0x2d" 833 (.ref 547), entOf P "inst_0x2e" 840 (.ref 554), entOf P "inst_0x30" 847 (.ref 561), entOf P "inst_0x31" 854 (.ref 568), entOf P "inst_0x35" 861 (.ref 575), entOf P "inst_0x36" 868 (.ref 582), entOf P "inst_0x38" 875 (.ref 589), entOf P "inst_0x39" 882 (.ref 596), entOf P "inst_0x3d" 889 (.ref 603), entOf P "inst_0x3e" 896 (.ref 610), entOf P "inst_0x40" 903 (.ref 617), entOf P "inst_0x41" 910 (.ref 624), entOf P "inst_0x45" 917 (.ref 631), entOf P "inst_0x46" 924 (.ref 638), entOf P "inst_0x48" 931 (.ref 645), entOf P "inst_0x49" 938 (.ref 652), entOf P "inst_0x4a" 945 (.ref 659), entOf P "inst_0x4c" 952 (.ref 666), entOf P "inst_0x4d" 959 (.ref 673), entOf P "inst_0x4e" 966 (.ref 680), entOf P "inst_0x50" 973 (.ref 687), entOf P "inst_0x51" 980 (.ref 694), entOf P "inst_0x55" 987 (.ref 701), entOf P "inst_0x56" 994 (.ref 708), entOf P "inst_0x58" 1001 (.ref 715), entOf P "inst_0x59" 1008 (.ref 722), entOf P "inst_0x5d" 1015 (.ref 729), entOf P "inst_0x5e" 1022 (.ref 736), entOf P "inst_0x60" 1029 (.ref 743), entOf P "inst_0x61" 1036 (.ref 750), entOf P "inst_0x65" 1043 (.ref 757), entOf P "inst_0x66" 1050 (.ref 764), entOf P "inst_0x68" 1057 (.ref 771), entOf P "inst_0x69" 1064 (.ref 778), entOf P "inst_0x6a" 1071 (.ref 785), entOf P "inst_0x6c" 1079 (.ref 792), entOf P "inst_0x6d" 1086 (.ref 799), entOf P "inst_0x6e" 1093 (.ref 806), entOf P "inst_0x70" 1100 (.ref 813), entOf P "inst_0x71" 1107 (.ref 820), entOf P "inst_0x75" 1114 (.ref 827), entOf P "inst_0x76" 1121 (.ref 834), entOf P "inst_0x78" 1128 (.ref 841), entOf P "inst_0x79" 1135 (.ref 848), entOf P "inst_0x7d" 1142 (.ref 855), entOf P "inst_0x7e" 1149 (.ref 862), entOf P "inst_0x81" 1156 (.ref 869), entOf P "inst_0x84" 1163 (.ref 876), entOf P "inst_0x85" 1170 (.ref 883), entOf P "inst_0x86" 1177 (.ref 890), entOf P "inst_0x88" 1184 (.ref 897), entOf P "inst_0x8a" 1191 (.ref 904), entOf P "inst_0x8c" 1198 (.ref 911), entOf P "inst_0x8d" 1205 (.ref 918), entOf P "inst_0x8e" 1212 (.ref 925), entOf P "inst_0x90" 1219 (.ref 932), entOf P "inst_0x91" 1226 (.ref 939), entOf P "inst_0x94" 1233 (.ref 946), entOf P "inst_0x95" 1240 (.ref 953), entOf P "inst_0x96" 1247 (.ref 960), entOf P "inst_0x98" 1254 (.ref 967), entOf P "inst_0x99" 1261 (.ref 974), entOf P "inst_0x9a" 1268 (.ref 981), entOf P "inst_0x9d" 1275 (.ref 988), entOf P "inst_0xa0" 1282 (.ref 995), entOf P "inst_0xa1" 1289 (.ref 1002), entOf P "inst_0xa2" 1296 (.ref 1009), entOf P "inst_0xa4" 1303 (.ref 1016), entOf P "inst_0xa5" 1310 (.ref 1023), entOf P "inst_0xa6" 1317 (.ref 1030), entOf P "inst_0xa8" 1324 (.ref 1037), entOf P "inst_0xa9" 1331 (.ref 1044), entOf P "inst_0xaa" 1338 (.ref 1051), entOf P "inst_0xac" 1345 (.ref 1058), entOf P "inst_0xad" 1352 (.ref 1065), entOf P "inst_0xae" 1359 (.ref 1072), entOf P "inst_0xb0" 1366 (.ref 1079), entOf P "inst_0xb1" 1373 (.ref 1086), entOf P "inst_0xb4" 1380 (.ref 1093), entOf P "inst_0xb5" 1387 (.ref 1100), entOf P "inst_0xb6" 1394 (.ref 1107), entOf P "inst_0xb8" 1401 (.ref 1114), entOf P "inst_0xb9" 1408 (.ref 1121), entOf P "inst_0xba" 1415 (.ref 1128), entOf P "inst_0xbc" 1422 (.ref 1135), entOf P "inst_0xbd" 1429 (.ref 1142), entOf P "inst_0xbe" 1436 (.ref 1149), entOf P "inst_0xc0" 1443 (.ref 1156), entOf P "inst_0xc1" 1450 (.ref 1163), entOf P "inst_0xc4" 1457 (.ref 1170), entOf P "inst_0xc5" 1464 (.ref 1177), entOf P "inst_0xc6" 1471 (.ref 1184), entOf P "inst_0xc8" 1478 (.ref 1191), entOf P "inst_0xc9" 1485 (.ref 1198), entOf P "inst_0xca" 1492 (.ref 1205), entOf P "inst_0xcc" 1499 (.ref 1212), entOf P "inst_0xcd" 1506 (.ref 1219), entOf P "inst_0xce" 1513 (.ref 1226), entOf P "inst_0xd0" 1520 (.ref 1233), entOf P "inst_0xd1" 1527 (.ref 1240), entOf P "inst_0xd5" 1534 (.ref 1247), entOf P "inst_0xd6" 1541 (.ref 1254), entOf P "inst_0xd8" 1548 (.ref 1261), entOf P "inst_0xd9" 1555 (.ref 1268), entOf P "inst_0xdd" 1562 (.ref 1275), entOf P "inst_0xde" 1569 (.ref 1282), entOf P "inst_0xe0" 1576 (.ref 1289), entOf P "inst_0xe1" 1583 (.ref 1296), entOf P "inst_0xe4" 1590 (.ref 1303), entOf P "inst_0xe5" 1597 (.ref 1310), entOf P "inst_0xe6" 1604 (.ref 1317), entOf P "inst_0xe8" 1611 (.ref 1324), entOf P "inst_0xe9" 1618 (.ref 1331), entOf P "inst_0xea" 1625 (.ref 1338), entOf P "inst_0xec" 1632 (.ref 1345), entOf P "inst_0xed" 1639 (.ref 1352), entOf P "inst_0xee" 1646 (.ref 1359), entOf P "inst_0xf0" 1653 (.ref 1366), entOf P "inst_0xf1" 1660 (.ref 1373), entOf P "inst_0xf5" 1667 (.ref 1380), entOf P "inst_0xf6" 1674 (.ref 1387), entOf P "inst_0xf8" 1681 (.ref 1394), entOf P "inst_0xf9" 1688 (.ref 1401), entOf P "inst_0xfd" 1695 (.ref 1408), entOf P "inst_0xfe" 1702 (.ref 1415), entOf P "instruct" 1703 (.ref 1416), entOf P "cycletime" 1960 (.ref 1417), entOf P "extracycles" 2217 (.ref 1418), entOf P "__static_attributes__" 2234 (.ref 1419), entOf P "__dict__" 2236 (.ref 1422), entOf P "__weakref__" 2238 (.ref 1423), entOf P "__doc__" 2239 (.none)]
noncomputable def clsO : Obj := { cls := .type "type", data := .cls { name := "MPU", bases := [.type "object"], mro := [.ref 1421, .type "object"], ns := 1420, qualname := "MPU", hasDict := true, slotNames := [], subclasses := [], abstract := false, collection := none, hasDel := false }, slots := #[none, none, some (.str "MPU" 189), some (.str "MPU" 197), some (.builtin "object.__new__"), some (.bool true)] }
noncomputable def stAt (i : Nat) : Stmt := (bodyL[i]?).getD (.Pass ⟨0, 0, 0, 0⟩)
noncomputable def dfltA : Addr := 22
noncomputable def lstOf : Stmt → List PySem.Expr
  | .Assign _ (.List elts _) _ => elts
  | _ => []
noncomputable def pt_law_told : Arguments × List Stmt × Scope := match (List.drop 3 pw.main.body : List Stmt) with
  | Stmt.FunctionDef _ a b _ _ _ sc _ _ _ :: _ => (a, b, sc)
  | _ => (default, [], default)
noncomputable def fd_law_told : FuncData := { name := "_law_told", qualname := "_law_told", params := pt_law_told.1, body := .stmts pt_law_told.2.1, scope := pt_law_told.2.2, globals := mainNs, closure := [], defaults := .none, kwdefaults := .none, pyModule := .str "law_lr0005_04" 2242, code := .ref 1431, builtins := builtinsNs }
noncomputable def pt_law_event : Arguments × List Stmt × Scope := match (List.drop 4 pw.main.body : List Stmt) with
  | Stmt.FunctionDef _ a b _ _ _ sc _ _ _ :: _ => (a, b, sc)
  | _ => (default, [], default)
noncomputable def fd_law_event : FuncData := { name := "_law_event", qualname := "_law_event", params := pt_law_event.1, body := .stmts pt_law_event.2.1, scope := pt_law_event.2.2, globals := mainNs, closure := [], defaults := .none, kwdefaults := .none, pyModule := .str "law_lr0005_04" 2242, code := .ref 1438, builtins := builtinsNs }
noncomputable def bltM : Obj := { cls := .type "module", dict := some builtinsNs }
noncomputable def KK (P : Params) : Frag := [(3, { cls := .type "dict", data := .dict (mainEs P).toArray 13 }), (1420, { cls := .type "dict", data := .dict (nsEs P).toArray 4 }), (1421, clsO)] ++ [(4, bltM)] ++ [(22, tupO [.none, .int 0 231])] ++ defPair cfg (stAt 15) 23 232 (.ref 22) ++ defPair cfg (stAt 16) 30 241 .none ++ defPair cfg (stAt 17) 37 249 .none ++ defPair cfg (stAt 18) 44 256 .none ++ defPair cfg (stAt 19) 51 263 .none ++ defPair cfg (stAt 20) 58 270 .none ++ defPair cfg (stAt 21) 65 278 .none ++ defPair cfg (stAt 22) 72 286 .none ++ defPair cfg (stAt 23) 79 296 .none ++ defPair cfg (stAt 24) 86 303 .none ++ defPair cfg (stAt 25) 93 310 .none ++ defPair cfg (stAt 26) 100 317 .none ++ defPair cfg (stAt 27) 107 324 .none ++ defPair cfg (stAt 28) 114 331 .none ++ defPair cfg (stAt 29) 121 338 .none ++ defPair cfg (stAt 30) 128 347 .none ++ defPair cfg (stAt 31) 135 354 .none ++ defPair cfg (stAt 32) 142 363 .none ++ defPair cfg (stAt 33) 149 372 .none ++ defPair cfg (stAt 34) 156 380 .none ++ defPair cfg (stAt 35) 163 388 .none ++ defPair cfg (stAt 36) 170 395 .none ++ defPair cfg (stAt 37) 177 403 .none ++ defPair cfg (stAt 38) 184 411 .none ++ defPair cfg (stAt 39) 191 419 .none ++ defPair cfg (stAt 40) 198 427 .none ++ defPair cfg (stAt 41) 205 437 .none ++ defPair cfg (stAt 42) 212 447 .none ++ defPair cfg (stAt 43) 219 455 .none ++ defPair cfg (stAt 44) 226 463 .none ++ defPair cfg (stAt 45) 233 471 .none ++ defPair cfg (stAt 46) 240 479 .none ++ defPair cfg (stAt 47) 247 487 .none ++ defPair cfg (stAt 48) 254 496 .none ++ defPair cfg (stAt 49) 261 506 .none ++ defPair cfg (stAt 50) 268 514 .none ++ defPair cfg (stAt 51) 275 532 .none ++ defPair cfg (stAt 52) 282 542 .none ++ defPair cfg (stAt 53) 289 550 .none ++ defPair cfg (stAt 54) 296 558 .none ++ defPair cfg (stAt 55) 303 566 .none ++ defPair cfg (stAt 56) 310 576 .none ++ defPair cfg (stAt 57) 317 593 .none ++ defPair cfg (stAt 58) 324 603 .none ++ defPair cfg (stAt 59) 331 613 .none ++ defPair cfg (stAt 60) 338 621 .none ++ defPair cfg (stAt 61) 345 629 .none ++ defPair cfg (stAt 62) 352 637 .none ++ defPair cfg (stAt 63) 359 644 .none ++ defPair cfg (stAt 64) 366 652 .none ++ defPair cfg (stAt 65) 373 659 .none ++ defPair cfg (stAt 66) 380 666 .none ++ defPair cfg (stAt 67) 387 673 .none ++ defPair cfg (stAt 68) 394 680 .none ++ defPair cfg (stAt 69) 401 687 .none ++ defPair cfg (stAt 70) 408 694 .none ++ defPair cfg (stAt 71) 415 701 .none ++ defPair cfg (stAt 72) 422 708 .none ++ defPair cfg (stAt 73) 429 715 .none ++ defPair cfg (stAt 74) 436 722 .none ++ defPair cfg (stAt 75) 443 729 .none ++ defPair cfg (stAt 76) 450 736 .none ++ defPair cfg (stAt 77) 457 743 .none ++ defPair cfg (stAt 78) 464 750 .none ++ defPair cfg (stAt 79) 471 757 .none ++ defPair cfg (stAt 80) 478 764 .none ++ defPair cfg (stAt 81) 485 771 .none ++ defPair cfg (stAt 82) 492 778 .none ++ defPair cfg (stAt 83) 499 785 .none ++ defPair cfg (stAt 84) 506 792 .none ++ defPair cfg (stAt 85) 513 799 .none ++ defPair cfg (stAt 86) 520 806 .none ++ defPair cfg (stAt 87) 527 813 .none ++ defPair cfg (stAt 88) 534 820 .none ++ defPair cfg (stAt 89) 541 827 .none ++ defPair cfg (stAt 90) 548 834 .none ++ defPair cfg (stAt 91) 555 841 .none ++ defPair cfg (stAt 92) 562 848 .none ++ defPair cfg (stAt 93) 569 855 .none ++ defPair cfg (stAt 94) 576 862 .none ++ defPair cfg (stAt 95) 583 869 .none ++ defPair cfg (stAt 96) 590 876 .none ++ defPair cfg (stAt 97) 597 883 .none ++ defPair cfg (stAt 98) 604 890 .none ++ defPair cfg (stAt 99) 611 897 .none ++ defPair cfg (stAt 100) 618 904 .none ++ defPair cfg (stAt 101) 625 911 .none ++ defPair cfg (stAt 102) 632 918 .none ++ defPair cfg (stAt 103) 639 925 .none ++ defPair cfg (stAt 104) 646 932 .none ++ defPair cfg (stAt 105) 653 939 .none ++ defPair cfg (stAt 106) 660 946 .none ++ defPair cfg (stAt 107) 667 953 .none ++ defPair cfg (stAt 108) 674 960 .none ++ defPair cfg (stAt 109) 681 967 .none ++ defPair cfg (stAt 110) 688 974 .none ++ defPair cfg (stAt 111) 695 981 .none ++ defPair cfg (stAt 112) 702 988 .none ++ defPair cfg (stAt 113) 709 995 .none ++ defPair cfg (stAt 114) 716 1002 .none ++ defPair cfg (stAt 115) 723 1009 .none ++ defPair cfg (stAt 116) 730 1016 .none ++ defPair cfg (stAt 117) 737 1023 .none ++ defPair cfg (stAt 118) 744 1030 .none ++ defPair cfg (stAt 119) 751 1037 .none ++ defPair cfg (stAt 120) 758 1044 .none ++ defPair cfg (stAt 121) 765 1051 .none ++ defPair cfg (stAt 122) 772 1058 .none ++ defPair cfg (stAt 123) 779 1065 .none ++ defPair cfg (stAt 124) 786 1072 .none ++ defPair cfg (stAt 125) 793 1080 .none ++ defPair cfg (stAt 126) 800 1087 .none ++ defPair cfg (stAt 127) 807 1094 .none ++ defPair cfg (stAt 128) 814 1101 .none ++ defPair cfg (stAt 129) 821 1108 .none ++ defPair cfg (stAt 130) 828 1115 .none ++ defPair cfg (stAt 131) 835 1122 .none ++ defPair cfg (stAt 132) 842 1129 .none ++ defPair cfg (stAt 133) 849 1136 .none ++ defPair cfg (stAt 134) 856 1143 .none ++ defPair cfg (stAt 135) 863 1150 .none ++ defPair cfg (stAt 136) 870 1157 .none ++ defPair cfg (stAt 137) 877 1164 .none ++ defPair cfg (stAt 138) 884 1171 .none ++ defPair cfg (stAt 139) 891 1178 .none ++ defPair cfg (stAt 140) 898 1185 .none ++ defPair cfg (stAt 141) 905 1192 .none ++ defPair cfg (stAt 142) 912 1199 .none ++ defPair cfg (stAt 143) 919 1206 .none ++ defPair cfg (stAt 144) 926 1213 .none ++ defPair cfg (stAt 145) 933 1220 .none ++ defPair cfg (stAt 146) 940 1227 .none ++ defPair cfg (stAt 147) 947 1234 .none ++ defPair cfg (stAt 148) 954 1241 .none ++ defPair cfg (stAt 149) 961 1248 .none ++ defPair cfg (stAt 150) 968 1255 .none ++ defPair cfg (stAt 151) 975 1262 .none ++ defPair cfg (stAt 152) 982 1269 .none ++ defPair cfg (stAt 153) 989 1276 .none ++ defPair cfg (stAt 154) 996 1283 .none ++ defPair cfg (stAt 155) 1003 1290 .none ++ defPair cfg (stAt 156) 1010 1297 .none ++ defPair cfg (stAt 157) 1017 1304 .none ++ defPair cfg (stAt 158) 1024 1311 .none ++ defPair cfg (stAt 159) 1031 1318 .none ++ defPair cfg (stAt 160) 1038 1325 .none ++ defPair cfg (stAt 161) 1045 1332 .none ++ defPair cfg (stAt 162) 1052 1339 .none ++ defPair cfg (stAt 163) 1059 1346 .none ++ defPair cfg (stAt 164) 1066 1353 .none ++ defPair cfg (stAt 165) 1073 1360 .none ++ defPair cfg (stAt 166) 1080 1367 .none ++ defPair cfg (stAt 167) 1087 1374 .none ++ defPair cfg (stAt 168) 1094 1381 .none ++ defPair cfg (stAt 169) 1101 1388 .none ++ defPair cfg (stAt 170) 1108 1395 .none ++ defPair cfg (stAt 171) 1115 1402 .none ++ defPair cfg (stAt 172) 1122 1409 .none ++ defPair cfg (stAt 173) 1129 1416 .none ++ defPair cfg (stAt 174) 1136 1423 .none ++ defPair cfg (stAt 175) 1143 1430 .none ++ defPair cfg (stAt 176) 1150 1437 .none ++ defPair cfg (stAt 177) 1157 1444 .none ++ defPair cfg (stAt 178) 1164 1451 .none ++ defPair cfg (stAt 179) 1171 1458 .none ++ defPair cfg (stAt 180) 1178 1465 .none ++ defPair cfg (stAt 181) 1185 1472 .none ++ defPair cfg (stAt 182) 1192 1479 .none ++ defPair cfg (stAt 183) 1199 1486 .none ++ defPair cfg (stAt 184) 1206 1493 .none ++ defPair cfg (stAt 185) 1213 1500 .none ++ defPair cfg (stAt 186) 1220 1507 .none ++ defPair cfg (stAt 187) 1227 1514 .none ++ defPair cfg (stAt 188) 1234 1521 .none ++ defPair cfg (stAt 189) 1241 1528 .none ++ defPair cfg (stAt 190) 1248 1535 .none ++ defPair cfg (stAt 191) 1255 1542 .none ++ defPair cfg (stAt 192) 1262 1549 .none ++ defPair cfg (stAt 193) 1269 1556 .none ++ defPair cfg (stAt 194) 1276 1563 .none ++ defPair cfg (stAt 195) 1283 1570 .none ++ defPair cfg (stAt 196) 1290 1577 .none ++ defPair cfg (stAt 197) 1297 1584 .none ++ defPair cfg (stAt 198) 1304 1591 .none ++ defPair cfg (stAt 199) 1311 1598 .none ++ defPair cfg (stAt 200) 1318 1605 .none ++ defPair cfg (stAt 201) 1325 1612 .none ++ defPair cfg (stAt 202) 1332 1619 .none ++ defPair cfg (stAt 203) 1339 1626 .none ++ defPair cfg (stAt 204) 1346 1633 .none ++ defPair cfg (stAt 205) 1353 1640 .none ++ defPair cfg (stAt 206) 1360 1647 .none ++ defPair cfg (stAt 207) 1367 1654 .none ++ defPair cfg (stAt 208) 1374 1661 .none ++ defPair cfg (stAt 209) 1381 1668 .none ++ defPair cfg (stAt 210) 1388 1675 .none ++ defPair cfg (stAt 211) 1395 1682 .none ++ defPair cfg (stAt 212) 1402 1689 .none ++ defPair cfg (stAt 213) 1409 1696 .none ++ [(1416, { cls := .type "list", data := .seq (cfg.instr.map Value.ref).toArray })] ++ [(1417, { cls := .type "list", data := .seq (intsAt 1704 (lstOf (stAt 215))).toArray })] ++ [(1418, { cls := .type "list", data := .seq (intsAt 1961 (lstOf (stAt 216))).toArray })] ++ [(1432, fnO fd_law_told), (1431, { cls := .type "code", data := .fields [.str "_law_told" 2244, .str "_law_told" 2245, .str "/claim/cut.py" 2246, .int (1040) 0, .int (1) 0, .int (0) 0, .int (0) 0, .int (3) 0, .ref 1426, .bool true, .int (181) 0, .ref 1427, .none, .ref 1428, .ref 1429, .ref 1430, .int (2248) 0, .int (1040) 0, .str "/claim/cut.py" 2249].toArray })] ++ [(1439, fnO fd_law_event), (1438, { cls := .type "code", data := .fields [.str "_law_event" 2251, .str "_law_event" 2252, .str "/claim/cut.py" 2253, .int (1042) 0, .int (2) 0, .int (0) 0, .int (0) 0, .int (3) 0, .ref 1433, .bool true, .int (181) 0, .ref 1434, .none, .ref 1435, .ref 1436, .ref 1437, .int (2256) 0, .int (1042) 0, .str "/claim/cut.py" 2257].toArray })]
noncomputable def clA : Addr := 1421
noncomputable def fnAddrs : List Nat := [29, 36, 43, 50, 57, 64, 71, 78, 85, 92, 99, 106, 113, 120, 127, 134, 141, 148, 155, 162, 169, 176, 183, 190, 197, 204, 211, 218, 225, 232, 239, 246, 253, 260, 267, 274, 281, 288, 295, 302, 309, 316, 323, 330, 337, 344, 351, 358, 365, 372, 379, 386, 393, 400, 407, 414, 421, 428, 435, 442, 449, 456, 463, 470, 477, 484, 491, 498, 505, 512, 519, 526, 533, 540, 547, 554, 561, 568, 575, 582, 589, 596, 603, 610, 617, 624, 631, 638, 645, 652, 659, 666, 673, 680, 687, 694, 701, 708, 715, 722, 729, 736, 743, 750, 757, 764, 771, 778, 785, 792, 799, 806, 813, 820, 827, 834, 841, 848, 855, 862, 869, 876, 883, 890, 897, 904, 911, 918, 925, 932, 939, 946, 953, 960, 967, 974, 981, 988, 995, 1002, 1009, 1016, 1023, 1030, 1037, 1044, 1051, 1058, 1065, 1072, 1079, 1086, 1093, 1100, 1107, 1114, 1121, 1128, 1135, 1142, 1149, 1156, 1163, 1170, 1177, 1184, 1191, 1198, 1205, 1212, 1219, 1226, 1233, 1240, 1247, 1254, 1261, 1268, 1275, 1282, 1289, 1296, 1303, 1310, 1317, 1324, 1331, 1338, 1345, 1352, 1359, 1366, 1373, 1380, 1387, 1394, 1401, 1408, 1415]
noncomputable def fnA (m : Nat) : Addr := fnAddrs.getD m 0
noncomputable def tabA (k : Nat) : Addr := ([1417, 1418] : List Nat).getD k 0
noncomputable def insA : Addr := 1416
noncomputable def fA (k : Nat) : Addr := ([1432, 1439] : List Nat).getD k 0
noncomputable def lawIx : Nat := 5

theorem k_base (P : Params) : baseB (KK P) clA = true := by kernel_rfl
theorem k_cst (P : Params) : cls.csts.all (cstB (KK P) clA) = true := by kernel_rfl
theorem k_tab0 (P : Params) : tabB (KK P) clA (tabA 0) (("cycletime" : Str), tab_cycletime) = true := by kernel_rfl
theorem k_tab1 (P : Params) : tabB (KK P) clA (tabA 1) (("extracycles" : Str), tab_extracycles) = true := by kernel_rfl
theorem k_ins (P : Params) : insB (KK P) clA cls fnA insA = true := by kernel_rfl
noncomputable def iWrap : Nat := 7
theorem k_meths (P : Params) : methsX (KK P) clA cls fnA iInit iWrap 0 theP = true := by kernel_rfl
theorem k_makes (P : Params) : makesIn (KK P) clA = true := by kernel_rfl
theorem k_keep (P : Params) : keepIn (KK P) (.ref clA) = true := by kernel_rfl
theorem k_init (P : Params) : findIn (KK P) (.ref clA) "__init__" = some (some (.ref (fnA iInit))) := by kernel_rfl
theorem k_initT (P : Params) : typeIn (KK P) (.ref (fnA iInit)) = some (.type "function") := by kernel_rfl
noncomputable def fdOf (o : Option Obj) : FuncData := match o with
  | some ⟨_, _, .func fd, _⟩ => fd
  | _ => default
noncomputable def fdInit : FuncData := fdOf ((defPair cfg (stAt 15) 23 232 (.ref 22)).lookup (fnA iInit))
theorem k_fdI (P : Params) : (KK P).lookup (fnA iInit) = some ⟨.type "function", none, .func fdInit, #[]⟩ := by kernel_rfl
theorem k_fdA : initArgs fdInit dfltA = true := by kernel_rfl
theorem k_dfl (P : Params) : (KK P).lookup dfltA = some (tupO [.none, .int 0 231]) := by kernel_rfl
theorem k_looks (P : Params) : KLooks (KK P) clA cls fnA tabA insA := by
  refine ⟨k_base P, k_cst P, fun k q e => ?_, k_ins P⟩
  match k, e with
  | 0, e => cases e; exact k_tab0 P
  | 1, e => cases e; exact k_tab1 P
  | n + 2, e => cases e
theorem md_init_at : cls.P[iInit]? = some md_init := rfl
theorem md_init_vars : md_init.vars.take md_init.np = [("self" : Str), ("memory" : Str), ("pc" : Str)] := rfl
noncomputable def XX (w : World) (h : Heap) (mb : Str → Option Value) : LX :=
  { x := { prog := pw, w := w, c := cls, h₀ := h, K := KK w.params, C := clA, I := 0, D := 0, L := 0, fnA := fnA, tabA := tabA, insA := insA }, F := theF, im := iInit, fuel := theFuel, mg := fun n => nsFind (mainEs w.params).toArray n, mb := mb, fA := fA }
noncomputable def fdWrap : FuncData := fdOf ((defPair cfg (stAt 22) 72 286 .none).lookup (fnA iWrap))
theorem k_fdW (P : Params) : (KK P).lookup (fnA iWrap) = some ⟨.type "function", none, .func fdWrap, #[]⟩ := by kernel_rfl
theorem k_wF (P : Params) : wrapFB (KK P) cls 5 11 md_ByteAt.nm 77 fdWrap = true := by kernel_rfl
theorem k_wfind (P : Params) : findIn (KK P) (.ref clA) md_WrapAt.nm = some (some (.ref (fnA iWrap))) := by kernel_rfl
theorem k_wnm : (nmB md_WrapAt.nm && varsB md_WrapAt) = true := by decide +kernel
theorem md_wrap_at : cls.P[iWrap]? = some md_WrapAt := rfl
theorem k_noT (P : Params) : ((KK P).all fun p => !tabb p.2) = true := by kernel_rfl
theorem k_blt4 (P : Params) : (KK P).lookup 4 = some bltM := by kernel_rfl
theorem k_bi (P : Params) : nsFind (mainEs P).toArray "__builtins__" = some (.ref 4) := by kernel_rfl
theorem k_told (P : Params) : (KK P).lookup (fA 0) = some (fnO fd_law_told) := by kernel_rfl
theorem k_toldB : toldB fd_law_told = true := by kernel_rfl
theorem k_toldC (P : Params) : codeIn (KK P) fd_law_told.code fd_law_told.qualname = true := by kernel_rfl
theorem k_toldM (P : Params) : nsFind (mainEs P).toArray "_law_told" = some (.ref (fA 0)) := by kernel_rfl
theorem k_ev (P : Params) : (KK P).lookup (fA 1) = some (fnO fd_law_event) := by kernel_rfl
theorem k_evB : evB theF fd_law_event = true := by kernel_rfl
theorem k_evC (P : Params) : codeIn (KK P) fd_law_event.code fd_law_event.qualname = true := by kernel_rfl
theorem k_evM (P : Params) : nsFind (mainEs P).toArray "_law_event" = some (.ref (fA 1)) := by kernel_rfl
theorem k_mainKeys (P : Params) : strKeysB (mainEs P) = true := by kernel_rfl
theorem k_main (P : Params) : ∃ n, (KK P).lookup mainGlobals = some { cls := .type "dict", data := .dict (mainEs P).toArray n } := ⟨13, by kernel_rfl⟩
theorem main_ns {P : Params} {h : Heap} (X : (KK P).In h) : h.Ns mainGlobals (fun n => nsFind (mainEs P).toArray n) := by
  obtain ⟨n, e⟩ := k_main P
  exact ns_of_obj (X _ _ e) (k_mainKeys P)
theorem main_wrap {P : Params} {h : Heap} (X : (KK P).In h) : ∃ mg, h.Ns mainGlobals mg ∧ h.BuiltinsAt mg tabP := ⟨_, main_ns X, 4, bltM, k_bi P, by decide, by decide, by decide, X _ _ (k_blt4 P), rfl, rfl, rfl⟩
theorem meth_all (w : World) (h : Heap) (mb : Str → Option Value) (I D L : Addr) (X : (KK w.params).In h) (nP : h.get? tabP = none) (m : Nat) (md : MethD) (e : cls.P[m]? = some md) : MethOk ((XX w h mb).at I D L) m md := by
  have hb := methsX_of (k_meths w.params) m md e
  rw [Nat.zero_add] at hb
  rcases hb with rfl | hb
  · rw [md_wrap_at] at e
    cases e
    obtain ⟨n1, n2⟩ := Bool.and_eq_true_iff.mp k_wnm
    exact wrap_meth (x := (XX w h mb).at I D L) (m := iWrap) (k_wfind w.params) n1 n2 rfl rfl rfl rfl (k_fdW w.params) (k_wF w.params) (main_wrap X) nP
  refine methB_of (x := (XX w h mb).at I D L) hb fun fd hf => ?_
  cases q : m != iInit with
  | true => exact .inl rfl
  | false =>
    right
    obtain rfl : m = iInit := by simpa using q
    have hf' : (KK w.params).lookup (fnA iInit) = some ⟨.type "function", none, .func fd, #[]⟩ := hf
    rw [k_fdI] at hf'
    cases hf'
    rw [md_init_at] at e
    cases e
    intro s vals X hl
    obtain ⟨a, b, c, rfl⟩ : ∃ a b c, vals = [a, b, c] := by
      match vals, hl with
      | [a, b, c], _ => exact ⟨a, b, c, rfl⟩
    rw [md_init_vars]
    exact (bind_init k_fdA (k_dfl w.params) X a b c).1
theorem k_mpu (P : Params) : nsFind (mainEs P).toArray "MPU" = some (.ref clA) := by kernel_rfl
theorem k_free (P : Params) : (bltT.map fun q => nsFind (mainEs P).toArray q.1) = bltT.map fun _ => none := by kernel_rfl
theorem k_blt : (bltT.map fun q => bootBuiltins q.1) = bltT.map fun q => some q.2 := by kernel_rfl
theorem k_bltN : (bltT.all fun q => q.1 != ("__name__" : Str)) = true := by kernel_rfl
theorem lok (w : World) {h : Heap} {mb : Str → Option Value} (X : (KK w.params).In h) (lim : h.NoLimit) (b : h.Ns builtinsNs mb) (hb : ∀ x : Str, x ≠ "__name__" → mb x = bootBuiltins x) (nP : h.get? tabP = none) : LOk (XX w h mb) := by
  refine ⟨fun I D L nD nL DL => ok_of (x := (XX w h mb).at I D L) (k_looks w.params) (fun m md e => meth_all w h mb I D L X nP m md e) X lim nD nL DL, small_of (x := (XX w h mb).x) (k_looks w.params), ?_, b, fun n v hm => ?_, k_mpu w.params, k_keep w.params, k_makes w.params, k_init w.params, k_initT w.params, fun s fd md self m p e hf Xs => ?_, lim, ⟨_, _, _, k_toldM w.params, X _ _ (k_told w.params), rfl, codeRec_of X (k_toldC w.params), k_toldB⟩, ⟨_, _, _, k_evM w.params, X _ _ (k_ev w.params), rfl, codeRec_of X (k_evC w.params), k_evB⟩⟩
  · exact main_ns X
  · refine ⟨(List.map_inj_left.mp (k_free w.params)) (n, v) hm, ?_⟩
    have h1 := (List.map_inj_left.mp k_blt) (n, v) hm
    have h2 := List.all_eq_true.mp k_bltN (n, v) hm
    show mb n = some v
    rw [hb n (by simpa using h2)]
    exact h1
  · have hf' : (KK w.params).lookup (fnA iInit) = some ⟨.type "function", none, .func fd, #[]⟩ := hf
    rw [k_fdI] at hf'
    cases hf'
    have e' : cls.P[iInit]? = some md := e
    rw [md_init_at] at e'
    cases e'
    rw [md_init_vars]
    exact (bind_init k_fdA (k_dfl w.params) Xs self m p).2
theorem fns (w : World) {h : Heap} {mb : Str → Option Value} (lim : h.NoLimit) (hT : ∀ b o, h.get? b = some o → tabb o = false) : FnsOk (XX w h mb) := ⟨rfl, lim, hT⟩
end Mine

end
section
open PySem PySem.W PyProof.Rows
set_option maxRecDepth 100000
set_option maxHeartbeats 0
namespace Mine
section
open PySem.TablesWhole
theorem wSs_app {top : Scope} {cx : TablesWhole.Ctx} {sc : Scope} : ∀ l r : List Stmt, wSs holds top cx sc (l ++ r) = (wSs holds top cx sc l && wSs holds top cx sc r)
  | [], r => rfl
  | s :: l, r => by
    show (wS holds top cx sc s && wSs holds top cx sc (l ++ r)) = ((wS holds top cx sc s && wSs holds top cx sc l) && _)
    rw [wSs_app l r, Bool.and_assoc]
theorem wSs_cut {top : Scope} {cx : TablesWhole.Ctx} {sc : Scope} (k : Nat) {l : List Stmt} (h1 : wSs holds top cx sc (l.take k) = true) (h2 : wSs holds top cx sc (l.drop k) = true) : wSs holds top cx sc l = true := by
  have := wSs_app (top := top) (cx := cx) (sc := sc) (l.take k) (l.drop k)
  rw [List.take_append_drop] at this
  rw [this, h1, h2]; rfl
theorem wSs_bit {top : Scope} {cx : TablesWhole.Ctx} {sc : Scope} (i k : Nat) {l : List Stmt} (h1 : wSs holds top cx sc ((l.drop i).take k) = true) (h2 : wSs holds top cx sc (l.drop (i + k)) = true) : wSs holds top cx sc (l.drop i) = true :=
  wSs_cut k h1 (by rw [List.drop_drop]; exact h2)
noncomputable def isTwice (w : String) : Bool := w == "no name twice in a table, but a class's lawful pair"
noncomputable def hx : Alg Bool := { holds with check := fun w _ _ ok => cond (isTwice w) true ok }
theorem ef_eq {ch : List Scope} {cls : Option Scope} {gl : List Str} {parent own : Scope} : holds.enterFrom ch cls gl parent own = (noTwice own && hx.enterFrom ch cls gl parent own) := by kernel_rfl
noncomputable def nameNo (s : Str) : Nat := s.cps.toList.foldl (fun a c => a * 2097152 + c) 0
noncomputable def allApart : List Nat → Bool
  | [] => true
  | a :: l => (l.all fun b => !Nat.beq a b) && allApart l
theorem filter_one {n : Str} {k : NameKind} : ∀ l : List (Str × NameKind), allApart (l.map fun p => nameNo p.1) = true → (n, k) ∈ l → l.filter (fun p => p.1 == n) = [(n, k)]
  | [], _, h => nomatch h
  | a :: l, h, hm => by
    obtain ⟨h1, h2⟩ := Bool.and_eq_true_iff.mp (show ((l.map fun p => nameNo p.1).all (fun b => !Nat.beq (nameNo a.1) b) && allApart (l.map fun p => nameNo p.1)) = true from h)
    have h1 : ∀ p ∈ l, ¬ nameNo a.1 = nameNo p.1 := fun p hp e => by
      have := List.all_eq_true.mp h1 _ (List.mem_map_of_mem hp)
      rw [← e, Nat.beq_refl] at this; cases this
    cases hm with
    | head =>
      rw [List.filter_cons_of_pos (by exact beq_self_eq_true n), List.filter_eq_nil_iff.mpr fun p hp e => h1 p hp (by rw [beq_iff_eq.mp e])]
    | tail _ hm =>
      rw [List.filter_cons_of_neg fun e => h1 _ hm (by rw [beq_iff_eq.mp e]), filter_one l h2 hm]
theorem noTwice_of {sc : Scope} (h : allApart (sc.names.map fun p => nameNo p.1) = true) : noTwice sc = true := by
  unfold noTwice
  refine List.all_eq_true.mpr fun ⟨n, k⟩ hp => ?_
  dsimp only
  rw [show sc.names.filter (fun p => p.1 == n) = [(n, k)] from filter_one _ h hp]
noncomputable def clsHd (cx : TablesWhole.Ctx) (sc : Scope) : Stmt → Bool
  | .ClassDef _ bases keywords body decorators [] own _ bind _ pos => wEs holds cx sc none decorators && (holds.bind cx sc bind (some pos) && (hx.enterFrom cx.encl none (declSs true body) sc own && (wEs holds cx sc none bases && wKs holds cx sc none keywords)))
  | _ => false
noncomputable def clsCx (cx : TablesWhole.Ctx) : Stmt → TablesWhole.Ctx
  | .ClassDef _ _ _ body _ tparams own tscope _ _ _ => ⟨own, declSs false body, declSs true body, under tparams tscope cx.encl, none⟩
  | _ => cx
noncomputable def clsOwn : Stmt → Scope
  | .ClassDef _ _ _ _ _ _ own _ _ _ _ => own
  | _ => default
noncomputable def clsBd : Stmt → List Stmt
  | .ClassDef _ _ _ body _ _ _ _ _ _ _ => body
  | _ => []
theorem wS_cls {top : Scope} {cx : TablesWhole.Ctx} {sc : Scope} {s : Stmt} (h0 : allApart ((clsOwn s).names.map fun p => nameNo p.1) = true) (h1 : clsHd cx sc s = true) (h2 : wSs holds top (clsCx cx s) (clsOwn s) (clsBd s) = true) : wS holds top cx sc s = true := by
  replace h0 := noTwice_of h0
  cases s <;> try exact absurd h1 Bool.false_ne_true
  rename_i bases keywords body decorators tparams own tscope bind _ pos
  cases tparams with
  | cons _ _ => exact absurd h1 Bool.false_ne_true
  | nil =>
    obtain ⟨a, h1⟩ := Bool.and_eq_true_iff.mp h1
    obtain ⟨b, h1⟩ := Bool.and_eq_true_iff.mp h1
    obtain ⟨c, h1⟩ := Bool.and_eq_true_iff.mp h1
    obtain ⟨d, e⟩ := Bool.and_eq_true_iff.mp h1
    have ef : holds.enterFrom cx.encl none (declSs true body) sc own = true := ef_eq.trans (Bool.and_eq_true_iff.mpr ⟨h0, c⟩)
    show ((wEs holds cx sc none decorators && (holds.bind cx sc bind (some pos) && ((holds.enterFrom cx.encl none (declSs true body) sc own && (wEs holds cx sc none bases && (wKs holds cx sc none keywords && true))) && true))) && wSs holds top _ own body) = true
    rw [a, b, ef, d, e]
    exact h2
noncomputable def topCx (p : Program) : TablesWhole.Ctx := ⟨p.main.scope, [], wSs gather p.main.scope ⟨p.main.scope, [], [], [], none⟩ p.main.scope p.main.body, [], none⟩
noncomputable def nth (p : Program) (k : Nat) : Stmt := (p.main.body.drop k).headD (.Pass ⟨0, 0, 0, 0⟩)
theorem tables_of {p : Program} {k : Nat} (hm : p.modules = []) (hp : p.parses = []) (hh : p.harvested = []) (hk : Nat.blt k p.main.body.length = true) (h1 : noTwice p.main.scope = true) (h2 : wSs holds p.main.scope (topCx p) p.main.scope (p.main.body.take k) = true)
    (h0 : allApart ((clsOwn (nth p k)).names.map fun p => nameNo p.1) = true) (h3 : clsHd (topCx p) p.main.scope (nth p k) = true) (h4 : wSs holds p.main.scope (clsCx (topCx p) (nth p k)) (clsOwn (nth p k)) (clsBd (nth p k)) = true) (h5 : wSs holds p.main.scope (topCx p) p.main.scope (p.main.body.drop (k + 1)) = true) : p.tablesWhole = true := by
  have hk := Nat.le_of_ble_eq_true hk
  have e : p.main.body.drop k = nth p k :: p.main.body.drop (k + 1) := by
    unfold nth
    rw [List.drop_eq_getElem_cons hk]; rfl
  have h6 : wSs holds p.main.scope (topCx p) p.main.scope p.main.body = true := wSs_cut k h2 (by
    rw [e]
    show (wS holds p.main.scope (topCx p) p.main.scope (nth p k) && _) = true
    rw [wS_cls h0 h3 h4, h5]; rfl)
  have h7 : wModule holds p.main = true := by
    show (true && (noTwice p.main.scope && (wSs holds p.main.scope (topCx p) p.main.scope p.main.body && true))) = true
    rw [h1, h6]; rfl
  show (wModule holds p.main && ((p.modules.map _).foldr _ _ && ((p.parses.map _).foldr _ _ && ((p.harvested.map _).foldr _ _ && true)))) = true
  rw [h7, hm, hp, hh]; rfl
end
end Mine

end
section
open PySem PySem.W PyProof.Rows
set_option maxRecDepth 100000
set_option maxHeartbeats 0
namespace Mine
noncomputable def Q : Program := { pw with main := { pw.main with body := pw.main.body.drop 5 } }
noncomputable def loose : List PySem.Str := [PySem.Str.ofString "MPU", PySem.Str.ofString "_law_told", PySem.Str.ofString "_law_event"]
theorem lk_size (w : World) : ((boot_heap w.params).isNs mainGlobals && (Array.mk ([] : List GenState)).size == 0, (boot_heap w.params).objs.size, (boot_heap w.params).nsMap mainGlobals "__annotations__") = (true, 11, some (.ref 6)) := by kernel_rfl
noncomputable abbrev rwN : OpenLaw := PySem.Challenge.rw_lr0005_04
noncomputable def Xt : Shared → Bool := fun s => xlAt Q [] s && recOk (RowW.records rwN.row.toRowW) s
theorem lk_all (w : World) (os : OsState) : ((staticsOk (importedModules pw.main.body) (boot_heap w.params) (Ff w os).abs.heap && namesBound pw (Ff w os).abs.heap && gensDone (Ff w os).abs && laidKept (boot_heap w.params) (Ff w os).abs.heap),
        openSeen Q loose (importedModules pw.main.body) Xt true (Ff w os).abs) = (true, openGood Q loose) := by kernel_rfl
noncomputable def KT (P : Params) : Frag := KK P ++ [(tabP, tabObj #[])]
noncomputable def paramsO : Params := { strHash := fun _ => 0, shareClass := fun _ => 0, mergeTok := id, idOf := fun _ => 0, idOfShared := fun _ _ => 0, followText := fun _ => true, idOfImm := fun _ => 0 }
noncomputable def kAs : List Addr := (KT paramsO).map (·.1)
theorem kAs_eq (P : Params) : kAs = (KT P).map (·.1) := by kernel_rfl
theorem k_tree (w : World) (os : OsState) : (KT w.params).map (fun p => (Nat.blt p.1 (Ff w os).n, ((Ff w os).tree.get p.1).map alive)) = (KT w.params).map (fun p => (true, some (some p.2))) := by kernel_rfl
noncomputable def HK : Hook := kHook KT kAs kAs_eq
theorem left : LeftO pw Q loose Xt HK.obs HK.val 16172 true :=
  left_of (H := HK) (F := Ff) (boot_open (by kernel_rfl) (by kernel_rfl) (fun s => by kernel_rfl)) lk_size top_run lk_all fun w os => seen_of kAs_eq (k_tree w os)
theorem kt_tab (P : Params) : (KT P).lookup tabP = some (tabObj #[]) := by kernel_rfl
noncomputable def dLaw : DefRec := match (pw.main.body.drop 5 : List Stmt) with
  | .FunctionDef n a b _ _ _ sc _ _ pos :: _ => ⟨n, a, b, sc, pos⟩
  | _ => ⟨"law", default, [], default, ⟨0, 0, 0, 0⟩⟩
theorem law_B (pm cd doc kV : Value) : fnB cls theF fn_law { PySem.Calls.docDef dLaw.name dLaw.params dLaw.body dLaw.scope pm cd doc with defaults := .none, kwdefaults := kV } = true := by kernel_rfl
theorem law_def : defOf Q rwN.name = some (dLaw, []) := by kernel_rfl
theorem law_the : pw.theDef rwN.name = some (dLaw.params, dLaw.body, dLaw.scope) := by kernel_rfl
theorem law_kw : kwWritten? dLaw.params.kwonlyargs dLaw.params.kw_defaults = some [] := by kernel_rfl
theorem law_dfl : dLaw.params.defaults = [] := by kernel_rfl
theorem law_ok : (chainsOk Q && opensWell pw && (frees rwN.row.toRowW && rwN.row.within.isEmpty)) = true := by kernel_rfl
noncomputable def tCx : TablesWhole.Ctx := clsCx (topCx pw) (nth pw 1)
noncomputable def tOwn : Scope := clsOwn (nth pw 1)
noncomputable def tBd : List Stmt := clsBd (nth pw 1)
noncomputable abbrev tW (l : List Stmt) : Bool := TablesWhole.wSs TablesWhole.holds pw.main.scope tCx tOwn l
theorem tb_0 : tW ((tBd.drop 0).take 40) = true := by kernel_rfl
theorem tb_1 : tW ((tBd.drop 40).take 40) = true := by kernel_rfl
theorem tb_2 : tW ((tBd.drop 80).take 40) = true := by kernel_rfl
theorem tb_3 : tW ((tBd.drop 120).take 40) = true := by kernel_rfl
theorem tb_4 : tW ((tBd.drop 160).take 40) = true := by kernel_rfl
theorem tb_5 : tW ((tBd.drop 200).take 40) = true := by kernel_rfl
theorem tb_6 : tW (tBd.drop 240) = true := by kernel_rfl
theorem tb_all : tW tBd = true := wSs_bit 0 40 tb_0 (wSs_bit 40 40 tb_1 (wSs_bit 80 40 tb_2 (wSs_bit 120 40 tb_3 (wSs_bit 160 40 tb_4 (wSs_bit 200 40 tb_5 tb_6)))))
theorem law_tables : pw.tablesWhole = true := tables_of (k := 1) (by kernel_rfl) (by kernel_rfl) (by kernel_rfl) (by kernel_rfl) (by kernel_rfl) (by kernel_rfl) (by kernel_rfl) (by kernel_rfl) tb_all (by kernel_rfl)
theorem law_bare : pw.bare := ⟨by kernel_rfl, by kernel_rfl, by kernel_rfl, by kernel_rfl, by kernel_rfl, law_tables⟩
theorem law_can : rwN.row.toRowW.promised := ⟨[.list []], by decide +kernel, by decide +kernel⟩
theorem law_prog : rwN.prog = pw := by kernel_rfl
theorem law_Xt (s : Shared) : Xt s = (xlAt Q [] s && recOk (RowW.records rwN.row.toRowW) s) := by kernel_rfl
theorem k_hd (P : Params) : codeHdB (KK P) 77 tabP = true := by kernel_rfl
theorem law_run (D : ∀ ns : List Int, ns.length ≤ 63 → ∃ ρ', exLs cls iInit theFuel (callL cls iInit theFuel theF 3) fn_law.body (some (.ints ns) :: List.replicate (fn_law.vars.length - 1) none) = some (.ret (.bool true), ρ'))
    (w : World) (s : Shared) (mb : Str → Option Value) (Y : HK.says w s.heap) (lim : s.heap.NoLimit) (hb : s.heap.Ns builtinsNs mb) (hbb : ∀ x : Str, x ≠ "__name__" → mb x = bootBuiltins x) (a : Addr) (o : Obj) (pm cd doc kV : Value) (ho : s.heap.get? a = some o)
    (hd : o.data = .func { PySem.Calls.docDef dLaw.name dLaw.params dLaw.body dLaw.scope pm cd doc with defaults := .none, kwdefaults := kV }) (hcd : s.heap.CodeRec cd dLaw.name) (ns : List Int) (b : Addr) (its : Array Value) (hl : ns.length ≤ 63) (li : s.heap.IsList b its) (ia : IntsAre its.toList ns)
    (R : Result → Shared → Prop) (post : ∀ s', Kt s s' → (∀ o, s.heap.get? tabP = some o → isCodeTable s.heap tabP) → R (.ok (.ret (.bool true))) s') : codeAny (model pw w) callerA (.call (.ref a) ⟨[.ref b], []⟩) R s := by
  have XT : (KT w.params).In s.heap := kIn_of Y
  have X0 : (KK w.params).In s.heap := in_left XT
  have tb := XT _ _ (kt_tab w.params)
  obtain ⟨g, g1, g2⟩ := hideTabs s.heap
  have X : (KK w.params).In g := in_hid g1 X0 (k_noT w.params)
  have OK := lok w X (lim_hid g1 lim) (ns_hid g1 hb) hbb (nP_hid g2 tb)
  have FO := fns w (mb := mb) (lim_hid g1 lim) fun b o e => (g2 b o e).2
  have hd70 : codeHdB (KK w.params) 77 tabP = true := k_hd w.params
  exact law_core (X := XX w g mb) OK FO (fnB_of (X := XX w g mb) (law_B pm cd doc kV)) (fun b o e => (g2 b o e).1) lim (tab_start tb) rfl ho hd hcd hl li ia (j := 3) (by decide) (D ns hl) fun s' k => post s' k fun _ _ => codeTab_of (codeHd_of hd70 X0)
end Mine

end
section
open PySem PySem.W PyProof.Rows
set_option maxRecDepth 100000
set_option linter.unusedVariables false
namespace Mine
section
variable {α β : Type}
end
noncomputable abbrev Rng := Option (Int × Int)
noncomputable def InR : Rng → Int → Prop
  | none, _ => True
  | some r, i => r.1 ≤ i ∧ i ≤ r.2
theorem or_tab : ∀ o a b z : Fin 2, (o.val = 1 ↔ a.val = 1 ∨ b.val = 1) → (z.val = 1 ↔ a.val = 1 ∧ b.val = 1) → o.val + z.val = a.val + b.val := by decide +kernel
theorem nat_or (a b : Nat) : (a ||| b) + (a &&& b) = a + b := by
  induction a using Nat.strongRecOn generalizing b with
  | ind a ih =>
    by_cases h : a = 0
    · subst h; rw [Nat.zero_or, Nat.zero_and, Nat.zero_add, Nat.add_zero]
    · have h0 := ih (a / 2) (Nat.div_lt_self (Nat.pos_of_ne_zero h) (by decide)) (b / 2)
      rw [← Nat.or_div_two, ← Nat.and_div_two] at h0
      have l (n : Nat) : n % 2 < 2 := Nat.mod_lt n (by decide)
      have h1 := or_tab ⟨_, l (a ||| b)⟩ ⟨_, l a⟩ ⟨_, l b⟩ ⟨_, l (a &&& b)⟩ Nat.or_mod_two_eq_one Nat.and_mod_two_eq_one
      dsimp only at h1
      generalize a ||| b = x at *
      generalize a &&& b = z at *
      omega
theorem or_nat {m n : Nat} : Builtin.bitOr (m : Int) (n : Int) = ((m ||| n : Nat) : Int) := by
  have h : (((m ||| n) + (m &&& n) : Nat) : Int) = ((m + n : Nat) : Int) := congrArg _ (nat_or m n)
  rw [bitOr_and, show Builtin.bitAnd (m : Int) (n : Int) = ((m &&& n : Nat) : Int) from bitAnd_pp (Int.natCast_nonneg _) (Int.natCast_nonneg _)]
  rw [Int.natCast_add, Int.natCast_add] at h
  omega
theorem or_bd {x y : Int} (k : Nat) (hx : 0 ≤ x) (hy : 0 ≤ y) (bx : x < 2 ^ k) (by' : y < 2 ^ k) : 0 ≤ Builtin.bitOr x y ∧ Builtin.bitOr x y ≤ 2 ^ k - 1 := by
  obtain ⟨m, rfl⟩ := Int.eq_ofNat_of_zero_le hx
  obtain ⟨n, rfl⟩ := Int.eq_ofNat_of_zero_le hy
  have a : m < 2 ^ k := by exact_mod_cast bx
  have b : n < 2 ^ k := by exact_mod_cast by'
  have h := Nat.or_lt_two_pow a b
  rw [or_nat]
  have h' : ((m ||| n : Nat) : Int) < 2 ^ k := by exact_mod_cast h
  exact ⟨Int.natCast_nonneg _, by omega⟩
theorem and_bd (x : Int) {y : Int} (h : 0 ≤ y) : 0 ≤ Builtin.bitAnd x y ∧ Builtin.bitAnd x y ≤ y := bitAnd_range x h
theorem xor_bd {x y : Int} (k : Nat) (hx : 0 ≤ x) (hy : 0 ≤ y) (bx : x < 2 ^ k) (by' : y < 2 ^ k) : 0 ≤ Builtin.bitXor x y ∧ Builtin.bitXor x y ≤ 2 ^ k - 1 := by
  have o := or_bd k hx hy bx by'
  have a1 := and_bd x hy
  have a2 := and_bd y hx
  rw [bitAnd_comm] at a2
  rw [bitOr_and] at o
  rw [bitXor_and]
  omega
noncomputable def low0 : Rng → Option Int
  | some (l, h) => if 0 ≤ l then some h else none
  | none => none
noncomputable def addA : Rng → Rng → Rng
  | some (a, b), some (c, d) => some (a + c, b + d)
  | _, _ => none
noncomputable def subA : Rng → Rng → Rng
  | some (a, b), some (c, d) => some (a - d, b - c)
  | _, _ => none
noncomputable def andA : Option Int → Option Int → Option Rng
  | some h, some k => some (some (0, if h ≤ k then h else k))
  | some h, none => some (some (0, h))
  | none, some k => some (some (0, k))
  | none, none => none
noncomputable def orA : Option Int → Option Int → Option Rng
  | some h, some k => if h < 256 ∧ k < 256 then some (some (0, 255)) else if h < 65536 ∧ k < 65536 then some (some (0, 65535)) else none
  | _, _ => none
noncomputable def shlA : Rng → Rng → Option Rng
  | some (a, b), some (c, d) => if 0 ≤ a ∧ b < 65536 ∧ c = d ∧ 0 ≤ c ∧ c ≤ 64 then some (some (a * 2 ^ c.toNat, b * 2 ^ c.toNat)) else none
  | _, _ => none
noncomputable def shrA : Rng → Rng → Option Rng
  | some (a, b), some (c, d) => if c = d ∧ 0 ≤ c then some (some (a / 2 ^ c.toNat, b / 2 ^ c.toNat)) else none
  | _, _ => none
noncomputable def opA (op : BOp) (r s : Rng) : Option Rng := match op with
  | .add => some (addA r s)
  | .sub => some (subA r s)
  | .and => andA (low0 r) (low0 s)
  | .or => orA (low0 r) (low0 s)
  | .xor => orA (low0 r) (low0 s)
  | .shl => shlA r s
  | .shr => shrA r s
theorem low0_of {r : Rng} {h : Int} (e : low0 r = some h) {i : Int} (q : InR r i) : 0 ≤ i ∧ i ≤ h := by
  cases r with
  | none => injection e
  | some r =>
    obtain ⟨a, b⟩ := r
    obtain ⟨h1, h2⟩ := ite_of e
    (injection h2 with h2; subst h2)
    exact ⟨Int.le_trans h1 q.1, q.2⟩
theorem orA_of : ∀ {r s : Option Int} {t : Rng}, orA r s = some t → ∃ x y, ∃ n : Nat, r = some x ∧ s = some y ∧ t = some (0, 2 ^ n - 1) ∧ x < 2 ^ n ∧ y < 2 ^ n
  | some x, some y, t, h => by
    by_cases q : x < 256 ∧ y < 256
    · have h : some (some (0, 255)) = some t := (if_pos q).symm.trans h
      exact ⟨x, y, 8, rfl, rfl, (Option.some.inj h).symm, q.1, q.2⟩
    · obtain ⟨c, h⟩ := ite_of ((if_neg q).symm.trans h)
      exact ⟨x, y, 16, rfl, rfl, (Option.some.inj h).symm, c.1, c.2⟩
  | some _, none, _, h => nomatch h
  | none, _, _, h => nomatch h
theorem shlA_of : ∀ {r s t : Rng}, shlA r s = some t → ∃ a b c, r = some (a, b) ∧ s = some (c, c) ∧ t = some (a * 2 ^ c.toNat, b * 2 ^ c.toNat) ∧ 0 ≤ a ∧ b < 65536 ∧ 0 ≤ c ∧ c ≤ 64
  | some (a, b), some (c, d), t, h => by
    obtain ⟨⟨h1, h2, rfl, h3, h4⟩, e⟩ := ite_of h
    exact ⟨a, b, c, rfl, rfl, (Option.some.inj e).symm, h1, h2, h3, h4⟩
  | some _, none, _, h => nomatch h
  | none, _, _, h => nomatch h
theorem shrA_of : ∀ {r s t : Rng}, shrA r s = some t → ∃ a b c, r = some (a, b) ∧ s = some (c, c) ∧ t = some (a / 2 ^ c.toNat, b / 2 ^ c.toNat) ∧ 0 ≤ c
  | some (a, b), some (c, d), t, h => by
    obtain ⟨⟨rfl, h3⟩, e⟩ := ite_of h
    exact ⟨a, b, c, rfl, rfl, (Option.some.inj e).symm, h3⟩
  | some _, none, _, h => nomatch h
  | none, _, _, h => nomatch h
theorem opA_of {op : BOp} {r s t : Rng} {i j : Int} (h : opA op r s = some t) (hi : InR r i) (hj : InR s j) : ∃ k, op.ev i j = some k ∧ InR t k := by
  cases op with
  | add =>
    refine ⟨_, rfl, ?_⟩
    rcases r with _ | ⟨a, b⟩ <;> rcases s with _ | ⟨c, d⟩ <;> cases h <;> first | trivial | exact ⟨Int.add_le_add hi.1 hj.1, Int.add_le_add hi.2 hj.2⟩
  | sub =>
    refine ⟨_, rfl, ?_⟩
    rcases r with _ | ⟨a, b⟩ <;> rcases s with _ | ⟨c, d⟩ <;> cases h <;> first | trivial | exact ⟨Int.sub_le_sub hi.1 hj.2, Int.sub_le_sub hi.2 hj.1⟩
  | and =>
    refine ⟨_, rfl, ?_⟩
    have h : andA (low0 r) (low0 s) = some t := h
    cases e1 : low0 r <;> cases e2 : low0 s <;> rw [e1, e2] at h <;> cases h
    · exact ⟨(and_bd i (low0_of e2 hj).1).1, Int.le_trans (and_bd i (low0_of e2 hj).1).2 (low0_of e2 hj).2⟩
    · have := and_bd j (low0_of e1 hi).1
      rw [bitAnd_comm] at this
      exact ⟨this.1, Int.le_trans this.2 (low0_of e1 hi).2⟩
    · refine ⟨(and_bd i (low0_of e2 hj).1).1, ?_⟩
      have := and_bd j (low0_of e1 hi).1
      rw [bitAnd_comm] at this
      show _ ≤ (if _ then _ else _)
      split
      · exact Int.le_trans this.2 (low0_of e1 hi).2
      · exact Int.le_trans (and_bd i (low0_of e2 hj).1).2 (low0_of e2 hj).2
  | or =>
    refine ⟨_, rfl, ?_⟩
    obtain ⟨x, y, n, e1, e2, rfl, a, b⟩ := orA_of (show orA (low0 r) (low0 s) = some t from h)
    have q1 := low0_of e1 hi
    have q2 := low0_of e2 hj
    exact or_bd n q1.1 q2.1 (Int.lt_of_le_of_lt q1.2 a) (Int.lt_of_le_of_lt q2.2 b)
  | xor =>
    refine ⟨_, rfl, ?_⟩
    obtain ⟨x, y, n, e1, e2, rfl, a, b⟩ := orA_of (show orA (low0 r) (low0 s) = some t from h)
    have q1 := low0_of e1 hi
    have q2 := low0_of e2 hj
    exact xor_bd n q1.1 q2.1 (Int.lt_of_le_of_lt q1.2 a) (Int.lt_of_le_of_lt q2.2 b)
  | shl =>
    obtain ⟨a, b, c, rfl, rfl, rfl, h1, h2, h3, h4⟩ := shlA_of (show shlA r s = some t from h)
    obtain rfl : j = c := Int.le_antisymm hj.2 hj.1
    obtain ⟨i1, i2⟩ := hi
    dsimp only at i1 i2
    have hp : (0 : Int) ≤ 2 ^ j.toNat := Int.le_of_lt (Int.pow_pos (by decide))
    exact ⟨_, if_pos ⟨h3, h4, by have : (2 : Nat) ^ 64 = 18446744073709551616 := rfl; omega⟩, Int.mul_le_mul_of_nonneg_right i1 hp, Int.mul_le_mul_of_nonneg_right i2 hp⟩
  | shr =>
    obtain ⟨a, b, c, rfl, rfl, rfl, h3⟩ := shrA_of (show shrA r s = some t from h)
    obtain rfl : j = c := Int.le_antisymm hj.2 hj.1
    have hp : (0 : Int) < 2 ^ j.toNat := Int.pow_pos (by decide)
    refine ⟨_, if_pos h3, ?_⟩
    rw [Int.fdiv_eq_ediv_of_nonneg _ (Int.le_of_lt hp)]
    exact ⟨Int.ediv_le_ediv hp hi.1, Int.ediv_le_ediv hp hi.2⟩
end Mine

end
section
open PySem PySem.W PyProof.Rows
set_option maxRecDepth 100000
set_option linter.unusedVariables false
set_option linter.unusedSectionVars false
namespace Mine
inductive AV where
  | iv (lo hi : Int)
  | num
  | bl
  | cst (v : V)
  | st
  | any
noncomputable abbrev AM := List AV
noncomputable abbrev AL := List (Option AV)
noncomputable def V.same : V → V → Bool
  | .none, .none => true
  | .self, .self => true
  | .txt, .txt => true
  | .memr, .memr => true
  | .unset, .unset => true
  | .meth a, .meth b => a == b
  | .bool a, .bool b => a == b
  | _, _ => false
theorem V.same_of {v w : V} (h : v.same w = true) : v = w := by
  cases v <;> cases w <;> first | rfl | exact absurd h Bool.false_ne_true | exact congrArg _ (beq_iff_eq.mp h)
noncomputable def AV.sub : AV → AV → Bool
  | _, .any => true
  | .iv a b, .iv c d => decide (c ≤ a) && decide (b ≤ d)
  | .iv _ _, .num => true
  | .num, .num => true
  | .bl, .bl => true
  | .cst (.bool _), .bl => true
  | .cst v, .cst w => v.same w
  | .st, .st => true
  | _, _ => false
noncomputable def AV.hull : AV → AV → AV
  | .iv a b, .iv c d => .iv (if a ≤ c then a else c) (if b ≤ d then d else b)
  | .iv _ _, .num => .num
  | .num, _ => .num
  | .bl, _ => .bl
  | .cst v, .cst w => if v.same w then .cst v else .bl
  | .cst _, .bl => .bl
  | .st, .st => .st
  | _, _ => .any
noncomputable def AV.join (a b : AV) : AV := if a.sub (a.hull b) && b.sub (a.hull b) then a.hull b else .any
noncomputable def AV.rng : AV → Option Rng
  | .iv l h => some (some (l, h))
  | .num => some none
  | _ => none
noncomputable def mkI : Rng → AV
  | some r => .iv r.1 r.2
  | none => .num
noncomputable def AV.flat : AV → Bool
  | .iv _ _ => true
  | .num => true
  | .bl => true
  | .cst .none => true
  | .cst (.bool _) => true
  | _ => false
noncomputable def AV.isN : AV → Option Bool
  | .iv _ _ => some false
  | .num => some false
  | .cst v => v.isN?
  | _ => none
noncomputable def AV.tr : AV → Option (Option Bool)
  | .iv _ _ => some none
  | .num => some none
  | .bl => some none
  | .cst v => (truth v).map some
  | _ => none
section
variable (s₁ s₂ : V)
noncomputable def AV.R : AV → V → V → Prop
  | .iv lo hi, v, w => ∃ i, v = .int i ∧ w = .int i ∧ lo ≤ i ∧ i ≤ hi
  | .num, v, w => ∃ i, v = .int i ∧ w = .int i
  | .bl, v, w => ∃ b, v = .bool b ∧ w = .bool b
  | .cst c, v, w => v = c ∧ w = c
  | .st, v, w => v = s₁ ∧ w = s₂
  | .any, _, _ => True
noncomputable def MemOk (l : List Int) : Prop := l.length = 65536 ∧ ∀ x ∈ l, 0 ≤ x ∧ x ≤ 255
structure RM (A : AM) (σ τ : M) : Prop where
  f : ∀ g : Fld, (A.getD g.ctorIdx .any).R s₁ s₂ (σ.get g) (τ.get g)
  m : τ.mem = σ.mem
  ok : MemOk σ.mem
  h1 : σ.hm = true
  h2 : τ.hm = true
structure RL (l : AL) (ρ₁ ρ₂ : Loc) : Prop where
  n1 : ρ₁.length = l.length
  n2 : ρ₂.length = l.length
  at' : ∀ v a, (l[v]?).join = some a → ∃ x y, ρ₁.at v = some x ∧ ρ₂.at v = some y ∧ a.R s₁ s₂ x y
noncomputable def Res (r : AV × AM) (o₁ o₂ : Option (V × M)) : Prop := ∃ v₁ v₂ τ₁ τ₂, o₁ = some (v₁, τ₁) ∧ o₂ = some (v₂, τ₂) ∧ r.1.R s₁ s₂ v₁ v₂ ∧ RM s₁ s₂ r.2 τ₁ τ₂
variable {s₁ s₂}
theorem sub_of {a b : AV} {v w : V} (h : a.sub b = true) (r : a.R s₁ s₂ v w) : b.R s₁ s₂ v w := by
  cases b
  case any => trivial
  case iv c d =>
    cases a <;> try exact absurd h Bool.false_ne_true
    case iv x y =>
      obtain ⟨i, e1, e2, p, q⟩ := r
      have := Bool.and_eq_true_iff.mp h
      exact ⟨i, e1, e2, Int.le_trans (of_decide_eq_true this.1) p, Int.le_trans q (of_decide_eq_true this.2)⟩
  case num =>
    cases a <;> try exact absurd h Bool.false_ne_true
    case iv x y => obtain ⟨i, e1, e2, _⟩ := r; exact ⟨i, e1, e2⟩
    case num => exact r
  case bl =>
    cases a <;> try exact absurd h Bool.false_ne_true
    case bl => exact r
    case cst v =>
      cases v <;> try exact absurd h Bool.false_ne_true
      case bool b => exact ⟨b, r⟩
  case cst c =>
    cases a <;> try exact absurd h Bool.false_ne_true
    case cst v =>
      have e : v = c := V.same_of (by cases v <;> exact h)
      subst e; exact r
  case st =>
    cases a <;> try exact absurd h Bool.false_ne_true
    case st => exact r
theorem join_l {a b : AV} {v w : V} (r : a.R s₁ s₂ v w) : (a.join b).R s₁ s₂ v w := by
  unfold AV.join
  by_cases h : (a.sub (a.hull b) && b.sub (a.hull b)) = true
  · rw [if_pos h]; exact sub_of (Bool.and_eq_true_iff.mp h).1 r
  · rw [if_neg h]; trivial
theorem join_r {a b : AV} {v w : V} (r : b.R s₁ s₂ v w) : (a.join b).R s₁ s₂ v w := by
  unfold AV.join
  by_cases h : (a.sub (a.hull b) && b.sub (a.hull b)) = true
  · rw [if_pos h]; exact sub_of (Bool.and_eq_true_iff.mp h).2 r
  · rw [if_neg h]; trivial
theorem rng_of {a : AV} {r : Rng} {v w : V} (h : a.rng = some r) (q : a.R s₁ s₂ v w) : ∃ i, v = .int i ∧ w = .int i ∧ InR r i := by
  cases a <;> cases h
  · obtain ⟨i, e1, e2, p⟩ := q; exact ⟨i, e1, e2, p⟩
  · obtain ⟨i, e1, e2⟩ := q; exact ⟨i, e1, e2, trivial⟩
theorem mkI_of {r : Rng} {i : Int} (h : InR r i) : (mkI r).R s₁ s₂ (.int i) (.int i) := by
  cases r
  · exact ⟨i, rfl, rfl⟩
  · exact ⟨i, rfl, rfl, h.1, h.2⟩
theorem flat_of {a : AV} {v w : V} (h : a.flat = true) (q : a.R s₁ s₂ v w) : v.flat? = some v ∧ w.flat? = some w := by
  cases a with
  | iv => obtain ⟨i, rfl, rfl, _⟩ := q; exact ⟨rfl, rfl⟩
  | num => obtain ⟨i, rfl, rfl⟩ := q; exact ⟨rfl, rfl⟩
  | bl => obtain ⟨i, rfl, rfl⟩ := q; exact ⟨rfl, rfl⟩
  | cst c =>
    obtain ⟨rfl, rfl⟩ := q
    cases w <;> first | exact ⟨rfl, rfl⟩ | exact absurd h Bool.false_ne_true
  | st => exact absurd h Bool.false_ne_true
  | any => exact absurd h Bool.false_ne_true
theorem isN_of {a : AV} {b : Bool} {v w : V} (h : a.isN = some b) (q : a.R s₁ s₂ v w) : v.isN? = some b ∧ w.isN? = some b := by
  cases a with
  | iv => obtain ⟨i, rfl, rfl, _⟩ := q; exact ⟨h, h⟩
  | num => obtain ⟨i, rfl, rfl⟩ := q; exact ⟨h, h⟩
  | cst c => obtain ⟨rfl, rfl⟩ := q; exact ⟨h, h⟩
  | bl => injection h
  | st => injection h
  | any => injection h
theorem tr_of {a : AV} {q : Option Bool} {v w : V} (h : a.tr = some q) (r : a.R s₁ s₂ v w) : ∃ b, truth v = some b ∧ truth w = some b ∧ (q = some b ∨ q = none) := by
  cases a with
  | iv => obtain ⟨i, rfl, rfl, _⟩ := r; exact ⟨_, rfl, rfl, .inr (Option.some.inj h).symm⟩
  | num => obtain ⟨i, rfl, rfl⟩ := r; exact ⟨_, rfl, rfl, .inr (Option.some.inj h).symm⟩
  | bl => obtain ⟨i, rfl, rfl⟩ := r; exact ⟨_, rfl, rfl, .inr (Option.some.inj h).symm⟩
  | cst c =>
    obtain ⟨rfl, rfl⟩ := r
    obtain ⟨b, e, h⟩ := map_of h
    exact ⟨b, e, e, .inl h.symm⟩
  | st => injection h
  | any => injection h
theorem getD_join {A B : AM} {i : Nat} {v w : V} : ((A.getD i .any).R s₁ s₂ v w → ((List.zipWith AV.join A B).getD i .any).R s₁ s₂ v w) ∧ ((B.getD i .any).R s₁ s₂ v w → ((List.zipWith AV.join A B).getD i .any).R s₁ s₂ v w) := by
  rw [List.getD_eq_getElem?_getD, List.getD_eq_getElem?_getD, List.getD_eq_getElem?_getD, List.getElem?_zipWith]
  cases A[i]? <;> cases B[i]?
  · exact ⟨id, id⟩
  · exact ⟨fun _ => trivial, fun _ => trivial⟩
  · exact ⟨fun _ => trivial, fun _ => trivial⟩
  · exact ⟨join_l, join_r⟩
theorem RM.jl {A B : AM} {σ τ : M} (r : RM s₁ s₂ A σ τ) : RM s₁ s₂ (List.zipWith AV.join A B) σ τ := ⟨fun g => getD_join.1 (r.f g), r.m, r.ok, r.h1, r.h2⟩
theorem RM.jr {A B : AM} {σ τ : M} (r : RM s₁ s₂ B σ τ) : RM s₁ s₂ (List.zipWith AV.join A B) σ τ := ⟨fun g => getD_join.2 (r.f g), r.m, r.ok, r.h1, r.h2⟩
end
section
variable {β : Type}
noncomputable def onA (o : Option (AV × AM)) (f : Rng → AM → Option β) : Option β := o.bind fun r => r.1.rng.bind fun i => f i r.2
end
noncomputable def inT (n : Nat) : Rng → Bool
  | some r => decide (0 ≤ r.1) && decide (r.2 < n)
  | none => false
noncomputable def octA : Rng → Bool
  | some r => decide (0 ≤ r.1) && decide (r.2 ≤ 255)
  | none => false
noncomputable def fix : Fld → Bool
  | .mem => true
  | .name => true
  | _ => false
noncomputable def setAv (A : AM) (f : Fld) (v : AV) : Option AM := cond (fix f) none (some (A.set f.ctorIdx v))
noncomputable def joinV (x y : AV × AM) : AV × AM := (x.1.join y.1, List.zipWith AV.join x.2 y.2)
noncomputable def allT (f : Nat → Option (AV × AM)) : List Nat → Option (AV × AM)
  | [] => none
  | m :: r => match r with
    | [] => f m
    | _ => (f m).bind fun x => (allT f r).map fun y => joinV x y
section
variable (c : Cls) (acf : Nat → List AV → AM → Option (AV × AM)) (l : AL)
noncomputable def absE : E → AM → Option (AV × AM)
  | .int i, A => some (.iv i i, A)
  | .none, A => some (.cst .none, A)
  | .var v, A => ((l[v]?).join).map fun a => (a, A)
  | .fld f, A => cond (A.getD f.ctorIdx .any).flat (some (A.getD f.ctorIdx .any, A)) none
  | .cst k, A => (c.csts[k]?).map fun x => (.iv x.2 x.2, A)
  | .mref m, A => some (.cst (.meth m), A)
  | .mem i, A => onA (absE i A) fun r A' => cond (inT 65536 r) (some (.iv 0 255, A')) none
  | .tab t i, A => onA (absE i A) fun r A' => (c.tabs[t]?).bind fun q => cond (inT q.2.length r && q.2.all fun x => decide (0 ≤ x) && decide (x ≤ 255)) (some (.iv 0 255, A')) none
  | .bin op a b, A => onA (absE a A) fun i A₁ => onA (absE b A₁) fun j A₂ => (opA op i j).map fun r => (mkI r, A₂)
  | .inv a, A => onA (absE a A) fun i A₁ => some (mkI (i.map fun r => (-r.2 - 1, -r.1 - 1)), A₁)
  | .cmp op a b, A => onA (absE a A) fun _ A₁ => onA (absE b A₁) fun _ A₂ => some (.bl, A₂)
  | .isNone v, A => ((l[v]?).join).bind fun a => a.isN.map fun b => (.cst (.bool b), A)
  | .isNoneF _, _ => none
  | .txt, A => some (.cst .txt, A)
  | .bool b, A => some (.cst (.bool b), A)
  | .stuck, _ => none
  | .call0 m, A => acf m [] A
  | .call1 m a, A => (absE a A).bind fun r => acf m [r.1] r.2
  | .call2 m a b, A => (absE a A).bind fun r => (absE b r.2).bind fun q => acf m [r.1, q.1] q.2
  | .callV v, A => ((l[v]?).join).bind fun a => match a with
    | .cst (.meth m) => acf m [] A
    | _ => none
  | .callT i, A => onA (absE i A) fun r A₁ => cond (inT c.instr.length r) (allT (fun m => acf m [] A₁) c.instr) none
end
noncomputable abbrev AR := Option (AL × AM) × Option (AV × AM)
noncomputable def joinL (l m : AL) : Option AL := if l.length = m.length then some (List.zipWith (fun a b => a.bind fun x => b.map fun y => x.join y) l m) else none
noncomputable def joinN : Option (AL × AM) → Option (AL × AM) → Option (Option (AL × AM))
  | none, y => some y
  | some x, none => some (some x)
  | some x, some y => (joinL x.1 y.1).map fun l => some (l, List.zipWith AV.join x.2 y.2)
noncomputable def joinT : Option (AV × AM) → Option (AV × AM) → Option (AV × AM)
  | none, y => y
  | some x, none => some x
  | some x, some y => some (joinV x y)
noncomputable def joinR (p q : AR) : Option AR := (joinN p.1 q.1).map fun n => (n, joinT p.2 q.2)
noncomputable def least (l : AL) (v : Nat) (r s : Option Rng) : AL := match r, s with
  | some (some r), some (some s) => l.set v (some (.iv r.1 (if r.2 ≤ s.2 then r.2 else s.2)))
  | _, _ => l
noncomputable def refine (l : AL) (A : AM) : E → AL
  | .cmp .gt (.var v) (.fld f) => least l v (((l[v]?).join).bind AV.rng) (A.getD f.ctorIdx .any).rng
  | _ => l
section
variable (c : Cls) (acf : Nat → List AV → AM → Option (AV × AM))
mutual
noncomputable def absS : S → AL → AM → Option AR
  | .expr e, l, A => (absE c acf l e A).map fun r => (some (l, r.2), none)
  | .asgV v e, l, A => (absE c acf l e A).bind fun r => if v < l.length then some (some (l.set v (some r.1), r.2), none) else none
  | .asgF f e, l, A => (absE c acf l e A).bind fun r => cond r.1.flat ((setAv r.2 f r.1).map fun A₂ => (some (l, A₂), none)) none
  | .asgM i e, l, A => onA (absE c acf l e A) fun x A₁ => cond (octA x) (onA (absE c acf l i A₁) fun k A₂ => cond (inT 65536 k) (some (some (l, A₂), none)) none) none
  | .augV v op e, l, A => ((l[v]?).join).bind fun a => a.rng.bind fun ra => onA (absE c acf l e A) fun rb A₁ => (opA op ra rb).bind fun rc => if v < l.length then some (some (l.set v (some (mkI rc)), A₁), none) else none
  | .augF f op e, l, A => (A.getD f.ctorIdx .any).rng.bind fun ra => onA (absE c acf l e A) fun rb A₁ => (opA op ra rb).bind fun rc => (setAv A₁ f (mkI rc)).map fun A₂ => (some (l, A₂), none)
  | .ite t a b, l, A => (absE c acf l t A).bind fun r => r.1.tr.bind fun q => match q with
    | some true => absSs a l r.2
    | some false => absSs b l r.2
    | none => (absSs a l r.2).bind fun x => (absSs b (refine l A t) r.2).bind fun y => joinR x y
  | .ret e, l, A => (absE c acf l e A).map fun r => (none, some r)
  | .ret0, l, A => some (none, some (.cst .none, A))
  | .pass, l, A => some (some (l, A), none)
noncomputable def absSs : Ss → AL → AM → Option AR
  | .nil, l, A => some (some (l, A), none)
  | .cons s r, l, A => (absS s l A).bind fun q => match q.1 with
    | none => some q
    | some x => (absSs r x.1 x.2).map fun q₂ => (q₂.1, joinT q.2 q₂.2)
end
end
noncomputable def absM (c : Cls) : Nat → Nat → List AV → AM → Option (AV × AM)
  | 0, _, _, _ => none
  | d + 1, m, args, A => (c.P[m]?).bind fun md => if args.length + 1 = md.np then (absSs c (absM c d) md.body ((some (.cst .self) :: args.map some) ++ List.replicate (md.vars.length - md.np) none) A).bind fun q => joinT (q.1.map fun x => (.cst .none, x.2)) q.2 else none
end Mine

end
section
open PySem PySem.W PyProof.Rows
set_option maxRecDepth 100000
set_option linter.unusedVariables false
set_option linter.unusedSectionVars false
namespace Mine
variable {s₁ s₂ : V}
theorem Res.jl {x y : AV × AM} {o₁ o₂ : Option (V × M)} (h : Res s₁ s₂ x o₁ o₂) : Res s₁ s₂ (joinV x y) o₁ o₂ := by
  obtain ⟨v₁, v₂, τ₁, τ₂, e1, e2, r, m⟩ := h
  exact ⟨v₁, v₂, τ₁, τ₂, e1, e2, join_l r, m.jl⟩
theorem Res.jr {x y : AV × AM} {o₁ o₂ : Option (V × M)} (h : Res s₁ s₂ y o₁ o₂) : Res s₁ s₂ (joinV x y) o₁ o₂ := by
  obtain ⟨v₁, v₂, τ₁, τ₂, e1, e2, r, m⟩ := h
  exact ⟨v₁, v₂, τ₁, τ₂, e1, e2, join_r r, m.jr⟩
theorem allT_of {f : Nat → Option (AV × AM)} : ∀ {L : List Nat} {r : AV × AM}, allT f L = some r → ∀ m ∈ L, ∃ x, f m = some x ∧ ∀ {o₁ o₂}, Res s₁ s₂ x o₁ o₂ → Res s₁ s₂ r o₁ o₂
  | [], r, h, m, hm => nomatch hm
  | [k], r, h, m, hm => by
    obtain rfl := List.mem_singleton.mp hm
    exact ⟨r, h, id⟩
  | k :: k' :: L, r, h, m, hm => by
    refine bind_el h fun x hx h => ?_
    refine map_el h fun y hy e => ?_
    subst e
    rcases List.mem_cons.mp hm with rfl | hm
    · exact ⟨x, hx, Res.jl⟩
    · obtain ⟨z, hz, k⟩ := allT_of hy m hm
      exact ⟨z, hz, fun q => (k q).jr⟩
noncomputable def CR (s₁ s₂ : V) (cf : Nat → List V → M → Option (V × M)) (acf : Nat → List AV → AM → Option (AV × AM)) : Prop :=
  ∀ m avs a₁ a₂ A σ₁ σ₂ r, acf m avs A = some r → RM s₁ s₂ A σ₁ σ₂ → avs.length = a₁.length → avs.length = a₂.length → (∀ (i : Nat) (a : AV), avs[i]? = some a → ∃ x y, a₁[i]? = some x ∧ a₂[i]? = some y ∧ a.R s₁ s₂ x y) → Res s₁ s₂ r (cf m a₁ σ₁) (cf m a₂ σ₂)
section
variable {c : Cls} {cf : Nat → List V → M → Option (V × M)} {acf : Nat → List AV → AM → Option (AV × AM)} (hc : CR s₁ s₂ cf acf) {l : AL} {ρ₁ ρ₂ : Loc} (hl : RL s₁ s₂ l ρ₁ ρ₂)
theorem Res.int {r : AV × AM} {i : Rng} {o₁ o₂ : Option (V × M)} (h : Res s₁ s₂ r o₁ o₂) (hi : r.1.rng = some i) : ∃ k τ₁ τ₂, o₁ = some (.int k, τ₁) ∧ o₂ = some (.int k, τ₂) ∧ InR i k ∧ RM s₁ s₂ r.2 τ₁ τ₂ := by
  obtain ⟨v₁, v₂, τ₁, τ₂, e1, e2, q, m⟩ := h
  obtain ⟨k, rfl, rfl, b⟩ := rng_of hi q
  exact ⟨k, τ₁, τ₂, e1, e2, b, m⟩
theorem onA_el {β : Type} {o : Option (AV × AM)} {f : Rng → AM → Option β} {r : β} {K : Prop} (h : onA o f = some r) (k : ∀ x i, o = some x → x.1.rng = some i → f i x.2 = some r → K) : K := by
  refine bind_el h fun x hx h => ?_
  exact bind_el h fun i hi h => k x i hx hi h
theorem inT_of {n : Nat} {r : Rng} {k : Int} (h : inT n r = true) (b : InR r k) : 0 ≤ k ∧ k < n := by
  cases r with
  | none => exact absurd h Bool.false_ne_true
  | some r =>
    have := Bool.and_eq_true_iff.mp h
    exact ⟨Int.le_trans (of_decide_eq_true this.1) b.1, Int.lt_of_le_of_lt b.2 (of_decide_eq_true this.2)⟩
theorem at_in {L : List Int} {k : Int} (h : 0 ≤ k ∧ k < (L.length : Int)) : ∃ x, at? L k = some x ∧ x ∈ L := by
  have hk : k.toNat < L.length := by omega
  exact ⟨L[k.toNat], by unfold at?; rw [if_pos h.1, List.getElem?_eq_getElem hk], List.getElem_mem hk⟩
theorem cst_R {v : V} : (AV.cst v).R s₁ s₂ v v := ⟨rfl, rfl⟩
theorem iv_R {k a b : Int} (h1 : a ≤ k) (h2 : k ≤ b) : (AV.iv a b).R s₁ s₂ (.int k) (.int k) := ⟨k, rfl, rfl, h1, h2⟩
include hc hl
theorem sE : ∀ (e : E) (A : AM) (r : AV × AM) (σ₁ σ₂ : M), absE c acf l e A = some r → RM s₁ s₂ A σ₁ σ₂ → Res s₁ s₂ r (evE c cf ρ₁ e σ₁) (evE c cf ρ₂ e σ₂)
  | .int i, A, r, σ₁, σ₂, h, m => by
    injection h with h; subst h
    exact ⟨_, _, _, _, rfl, rfl, iv_R (Int.le_refl _) (Int.le_refl _), m⟩
  | .none, A, r, σ₁, σ₂, h, m => by injection h with h; subst h; exact ⟨_, _, _, _, rfl, rfl, cst_R, m⟩
  | .txt, A, r, σ₁, σ₂, h, m => by injection h with h; subst h; exact ⟨_, _, _, _, rfl, rfl, cst_R, m⟩
  | .bool b, A, r, σ₁, σ₂, h, m => by injection h with h; subst h; exact ⟨_, _, _, _, rfl, rfl, cst_R, m⟩
  | .mref k, A, r, σ₁, σ₂, h, m => by injection h with h; subst h; exact ⟨_, _, _, _, rfl, rfl, cst_R, m⟩
  | .stuck, A, r, σ₁, σ₂, h, m => nomatch h
  | .isNoneF _, A, r, σ₁, σ₂, h, m => nomatch h
  | .var v, A, r, σ₁, σ₂, h, m => by
    refine map_el h fun a ha e => ?_
    subst e
    obtain ⟨x, y, e1, e2, q⟩ := hl.at' v a ha
    exact ⟨x, y, σ₁, σ₂, by show (ρ₁.at v).map _ = _; rw [e1]; rfl, by show (ρ₂.at v).map _ = _; rw [e2]; rfl, q, m⟩
  | .fld f, A, r, σ₁, σ₂, h, m => by
    obtain ⟨hf, h⟩ := cond_of h
    injection h with h; subst h
    have q := m.f f
    obtain ⟨f1, f2⟩ := flat_of hf q
    have g1 : ∀ {v : V}, v.flat? = some v → v.got? = some v := fun {v} h => by cases v <;> first | rfl | injection h
    exact ⟨_, _, σ₁, σ₂, by show ((σ₁.get f).got?).map _ = _; rw [g1 f1]; rfl, by show ((σ₂.get f).got?).map _ = _; rw [g1 f2]; rfl, q, m⟩
  | .cst k, A, r, σ₁, σ₂, h, m => by
    refine map_el h fun x hx e => ?_
    subst e
    exact ⟨_, _, σ₁, σ₂, by show (c.csts[k]?).map _ = _; rw [hx]; rfl, by show (c.csts[k]?).map _ = _; rw [hx]; rfl, iv_R (Int.le_refl _) (Int.le_refl _), m⟩
  | .mem i, A, r, σ₁, σ₂, h, m => by
    refine onA_el h fun x i' hx hi h => ?_
    obtain ⟨ht, h⟩ := cond_of h
    injection h with h; subst h
    obtain ⟨k, τ₁, τ₂, e1, e2, b, m'⟩ := (sE i A x σ₁ σ₂ hx m).int hi
    have b' := inT_of ht b
    obtain ⟨z, hz, hm⟩ := at_in (L := τ₁.mem) (k := k) (by rw [m'.ok.1]; exact b')
    have o := m'.ok.2 z hm
    refine ⟨.int z, .int z, τ₁, τ₂, ?_, ?_, iv_R o.1 o.2, m'⟩
    · show cond σ₁.hm (onI (evE c cf ρ₁ i σ₁) _) _ = _
      rw [m.h1, cond_true, e1, onI_eq, hz]; rfl
    · show cond σ₂.hm (onI (evE c cf ρ₂ i σ₂) _) _ = _
      rw [m.h2, cond_true, e2, onI_eq, m'.m, hz]; rfl
  | .tab t i, A, r, σ₁, σ₂, h, m => by
    refine onA_el h fun x i' hx hi h => ?_
    refine bind_el h fun q hq h => ?_
    obtain ⟨ht, h⟩ := cond_of h
    injection h with h; subst h
    obtain ⟨k, τ₁, τ₂, e1, e2, b, m'⟩ := (sE i A x σ₁ σ₂ hx m).int hi
    have ht := Bool.and_eq_true_iff.mp ht
    obtain ⟨z, hz, hm⟩ := at_in (inT_of ht.1 b)
    have o := Bool.and_eq_true_iff.mp (List.all_eq_true.mp ht.2 z hm)
    refine ⟨.int z, .int z, τ₁, τ₂, ?_, ?_, iv_R (of_decide_eq_true o.1) (of_decide_eq_true o.2), m'⟩
    · show onI (evE c cf ρ₁ i σ₁) _ = _
      rw [e1, onI_eq, hq, Option.bind_some, hz]; rfl
    · show onI (evE c cf ρ₂ i σ₂) _ = _
      rw [e2, onI_eq, hq, Option.bind_some, hz]; rfl
  | .bin op a b, A, r, σ₁, σ₂, h, m => by
    refine onA_el h fun x i hx hi h => ?_
    refine onA_el h fun y j hy hj h => ?_
    refine map_el h fun t ht e => ?_
    subst e
    obtain ⟨k, τ₁, τ₂, e1, e2, b1, m1⟩ := (sE a A x σ₁ σ₂ hx m).int hi
    obtain ⟨k', u₁, u₂, f1, f2, b2, m2⟩ := (sE b x.2 y τ₁ τ₂ hy m1).int hj
    obtain ⟨z, hz, bz⟩ := opA_of ht b1 b2
    refine ⟨.int z, .int z, u₁, u₂, ?_, ?_, mkI_of bz, m2⟩
    · show onI (evE c cf ρ₁ a σ₁) _ = _
      rw [e1, onI_eq, f1, onI_eq, hz]; rfl
    · show onI (evE c cf ρ₂ a σ₂) _ = _
      rw [e2, onI_eq, f2, onI_eq, hz]; rfl
  | .inv a, A, r, σ₁, σ₂, h, m => by
    refine onA_el h fun x i hx hi h => ?_
    injection h with h; subst h
    obtain ⟨k, τ₁, τ₂, e1, e2, b1, m1⟩ := (sE a A x σ₁ σ₂ hx m).int hi
    refine ⟨.int (Builtin.bitNot k), .int (Builtin.bitNot k), τ₁, τ₂, ?_, ?_, mkI_of ?_, m1⟩
    · show onI (evE c cf ρ₁ a σ₁) _ = _
      rw [e1, onI_eq]
    · show onI (evE c cf ρ₂ a σ₂) _ = _
      rw [e2, onI_eq]
    · cases i with
      | none => trivial
      | some r =>
        have := b1.1; have := b1.2
        exact ⟨show _ ≤ -k - 1 by show -r.2 - 1 ≤ _; omega, show -k - 1 ≤ _ by show _ ≤ -r.1 - 1; omega⟩
  | .cmp op a b, A, r, σ₁, σ₂, h, m => by
    refine onA_el h fun x i hx hi h => ?_
    refine onA_el h fun y j hy hj h => ?_
    injection h with h; subst h
    obtain ⟨k, τ₁, τ₂, e1, e2, b1, m1⟩ := (sE a A x σ₁ σ₂ hx m).int hi
    obtain ⟨k', u₁, u₂, f1, f2, b2, m2⟩ := (sE b x.2 y τ₁ τ₂ hy m1).int hj
    refine ⟨.bool (op.ev k k'), .bool (op.ev k k'), u₁, u₂, ?_, ?_, ⟨_, rfl, rfl⟩, m2⟩
    · show onI (evE c cf ρ₁ a σ₁) _ = _
      rw [e1, onI_eq, f1, onI_eq]
    · show onI (evE c cf ρ₂ a σ₂) _ = _
      rw [e2, onI_eq, f2, onI_eq]
  | .isNone v, A, r, σ₁, σ₂, h, m => by
    refine bind_el h fun a ha h => ?_
    refine map_el h fun b hb e => ?_
    subst e
    obtain ⟨x, y, e1, e2, q⟩ := hl.at' v a ha
    obtain ⟨n1, n2⟩ := isN_of hb q
    exact ⟨.bool b, .bool b, σ₁, σ₂, by show (ρ₁.at v).bind _ = _; rw [e1, Option.bind_some, n1]; rfl, by show (ρ₂.at v).bind _ = _; rw [e2, Option.bind_some, n2]; rfl, cst_R, m⟩
  | .call0 k, A, r, σ₁, σ₂, h, m => hc k [] [] [] A σ₁ σ₂ r h m rfl rfl fun i a q => by rw [List.getElem?_nil] at q; injection q
  | .call1 k a, A, r, σ₁, σ₂, h, m => by
    refine bind_el h fun x hx h => ?_
    obtain ⟨v₁, v₂, τ₁, τ₂, e1, e2, q, m1⟩ := sE a A x σ₁ σ₂ hx m
    show Res s₁ s₂ r ((evE c cf ρ₁ a σ₁).bind _) ((evE c cf ρ₂ a σ₂).bind _)
    rw [e1, e2]
    refine hc k [x.1] [v₁] [v₂] x.2 τ₁ τ₂ r h m1 rfl rfl fun i b hb => ?_
    cases i with
    | zero => injection hb with hb; subst hb; exact ⟨v₁, v₂, rfl, rfl, q⟩
    | succ i => exact nomatch hb
  | .call2 k a b, A, r, σ₁, σ₂, h, m => by
    refine bind_el h fun x hx h => ?_
    refine bind_el h fun y hy h => ?_
    obtain ⟨v₁, v₂, τ₁, τ₂, e1, e2, q, m1⟩ := sE a A x σ₁ σ₂ hx m
    obtain ⟨w₁, w₂, u₁, u₂, f1, f2, p, m2⟩ := sE b x.2 y τ₁ τ₂ hy m1
    show Res s₁ s₂ r ((evE c cf ρ₁ a σ₁).bind _) ((evE c cf ρ₂ a σ₂).bind _)
    rw [e1, e2, Option.bind_some, Option.bind_some, f1, f2]
    refine hc k [x.1, y.1] [v₁, w₁] [v₂, w₂] y.2 u₁ u₂ r h m2 rfl rfl fun i b hb => ?_
    match i, hb with
    | 0, hb => injection hb with hb; subst hb; exact ⟨v₁, v₂, rfl, rfl, q⟩
    | 1, hb => injection hb with hb; subst hb; exact ⟨w₁, w₂, rfl, rfl, p⟩
    | i + 2, hb => exact nomatch hb
  | .callV v, A, r, σ₁, σ₂, h, m => by
    refine bind_el h fun a ha h => ?_
    obtain ⟨x, y, e1, e2, q⟩ := hl.at' v a ha
    cases a with
    | cst w =>
      cases w with
      | meth k =>
        obtain ⟨rfl, rfl⟩ := q
        show Res s₁ s₂ r ((ρ₁.at v).bind _) ((ρ₂.at v).bind _)
        rw [e1, e2]
        exact hc k [] [] [] A σ₁ σ₂ r h m rfl rfl fun i a q => by rw [List.getElem?_nil] at q; injection q
      | _ => injection h
    | _ => injection h
  | .callT i, A, r, σ₁, σ₂, h, m => by
    refine onA_el h fun x i' hx hi h => ?_
    obtain ⟨ht, h⟩ := cond_of h
    obtain ⟨k, τ₁, τ₂, e1, e2, b, m1⟩ := (sE i A x σ₁ σ₂ hx m).int hi
    have b' := inT_of ht b
    have hk : k.toNat < c.instr.length := by omega
    obtain ⟨z, hz, up⟩ := allT_of (s₁ := s₁) (s₂ := s₂) h _ (List.getElem_mem hk)
    show Res s₁ s₂ r (onI (evE c cf ρ₁ i σ₁) _) (onI (evE c cf ρ₂ i σ₂) _)
    rw [e1, e2, onI_eq, onI_eq, if_pos b'.1, if_pos b'.1, List.getElem?_eq_getElem hk, Option.bind_some, Option.bind_some]
    exact up (hc _ [] [] [] x.2 τ₁ τ₂ z hz m1 rfl rfl fun i a q => by rw [List.getElem?_nil] at q; injection q)
end
end Mine

end
section
open PySem PySem.W PyProof.Rows
set_option maxRecDepth 100000
set_option linter.unusedVariables false
set_option linter.unusedSectionVars false
namespace Mine
variable {s₁ s₂ : V}
inductive RS (s₁ s₂ : V) (r : AR) : Option (Fl × Loc × M) → Option (Fl × Loc × M) → Prop
  | next {l A ρ₁ ρ₂ σ₁ σ₂} (e : r.1 = some (l, A)) (hl : RL s₁ s₂ l ρ₁ ρ₂) (m : RM s₁ s₂ A σ₁ σ₂) : RS s₁ s₂ r (some (.next, ρ₁, σ₁)) (some (.next, ρ₂, σ₂))
  | ret {a A v₁ v₂ ρ₁ ρ₂ σ₁ σ₂} (e : r.2 = some (a, A)) (q : a.R s₁ s₂ v₁ v₂) (m : RM s₁ s₂ A σ₁ σ₂) : RS s₁ s₂ r (some (.ret v₁, ρ₁, σ₁)) (some (.ret v₂, ρ₂, σ₂))
theorem joinL_of {l m n : AL} {ρ₁ ρ₂ : Loc} (h : joinL l m = some n) (hl : RL s₁ s₂ l ρ₁ ρ₂ ∨ RL s₁ s₂ m ρ₁ ρ₂) : RL s₁ s₂ n ρ₁ ρ₂ := by
  obtain ⟨hn, e⟩ := ite_of h
  injection e with e
  subst e
  have ln : (List.zipWith (fun a b : Option AV => a.bind fun x => b.map fun y => x.join y) l m).length = l.length := by rw [List.length_zipWith, hn, Nat.min_self]
  have key : ∀ (v : Nat) (a : AV), ((List.zipWith (fun a b : Option AV => a.bind fun x => b.map fun y => x.join y) l m)[v]?).join = some a → ∃ x y : AV, (l[v]?).join = some x ∧ (m[v]?).join = some y ∧ a = AV.join x y := by
    intro v a h
    rw [List.getElem?_zipWith] at h
    cases e1 : l[v]? with
    | none => rw [e1] at h; injection h
    | some x =>
      cases e2 : m[v]? with
      | none => rw [e1, e2] at h; injection h
      | some y =>
        rw [e1, e2] at h
        cases x with
        | none => injection h
        | some x =>
          cases y with
          | none => injection h
          | some y => injection h with h; exact ⟨x, y, rfl, rfl, h.symm⟩
  rcases hl with hl | hl
  · refine ⟨hl.n1.trans ln.symm, hl.n2.trans ln.symm, fun v a h => ?_⟩
    obtain ⟨x, y, ex, ey, rfl⟩ := key v a h
    obtain ⟨p, q, e1, e2, r⟩ := hl.at' v x ex
    exact ⟨p, q, e1, e2, join_l r⟩
  · refine ⟨hl.n1.trans (hn.symm.trans ln.symm), hl.n2.trans (hn.symm.trans ln.symm), fun v a h => ?_⟩
    obtain ⟨x, y, ex, ey, rfl⟩ := key v a h
    obtain ⟨p, q, e1, e2, r⟩ := hl.at' v y ey
    exact ⟨p, q, e1, e2, join_r r⟩
theorem joinT_r {p : Option (AV × AM)} {a : AV} {A : AM} : ∃ b B, joinT p (some (a, A)) = some (b, B) ∧ (∀ v w, a.R s₁ s₂ v w → b.R s₁ s₂ v w) ∧ ∀ σ τ, RM s₁ s₂ A σ τ → RM s₁ s₂ B σ τ := by
  cases p with
  | none => exact ⟨a, A, rfl, fun _ _ => id, fun _ _ => id⟩
  | some x => exact ⟨_, _, rfl, fun _ _ => join_r, fun _ _ => RM.jr⟩
theorem joinT_l {q : Option (AV × AM)} {a : AV} {A : AM} : ∃ b B, joinT (some (a, A)) q = some (b, B) ∧ (∀ v w, a.R s₁ s₂ v w → b.R s₁ s₂ v w) ∧ ∀ σ τ, RM s₁ s₂ A σ τ → RM s₁ s₂ B σ τ := by
  cases q with
  | none => exact ⟨a, A, rfl, fun _ _ => id, fun _ _ => id⟩
  | some x => exact ⟨_, _, rfl, fun _ _ => join_l, fun _ _ => RM.jl⟩
theorem joinR_of {p q r : AR} {o₁ o₂ : Option (Fl × Loc × M)} (h : joinR p q = some r) (k : RS s₁ s₂ p o₁ o₂ ∨ RS s₁ s₂ q o₁ o₂) : RS s₁ s₂ r o₁ o₂ := by
  refine map_el h fun n hn e => ?_
  subst e
  rcases k with k | k
  · cases k with
    | next e hl m =>
      cases hq : q.1 with
      | none => rw [e, hq] at hn; injection hn with hn; exact .next hn.symm hl m
      | some y =>
        rw [e, hq] at hn
        refine map_el hn fun l' hl' e' => ?_
        exact .next e'.symm (joinL_of hl' (.inl hl)) m.jl
    | ret e r m =>
      obtain ⟨b, B, eb, f1, f2⟩ := joinT_l (s₁ := s₁) (s₂ := s₂) (q := q.2)
      exact .ret (by show joinT p.2 q.2 = _; rw [e]; exact eb) (f1 _ _ r) (f2 _ _ m)
  · cases k with
    | next e hl m =>
      cases hp : p.1 with
      | none => rw [e, hp] at hn; injection hn with hn; exact .next hn.symm hl m
      | some y =>
        rw [e, hp] at hn
        refine map_el hn fun l' hl' e' => ?_
        exact .next e'.symm (joinL_of hl' (.inr hl)) m.jr
    | ret e r m =>
      obtain ⟨b, B, eb, f1, f2⟩ := joinT_r (s₁ := s₁) (s₂ := s₂) (p := p.2)
      exact .ret (by show joinT p.2 q.2 = _; rw [e]; exact eb) (f1 _ _ r) (f2 _ _ m)
theorem RL.set {l : AL} {ρ₁ ρ₂ : Loc} (h : RL s₁ s₂ l ρ₁ ρ₂) {v : Nat} {a : AV} {x y : V} (hv : v < l.length) (q : a.R s₁ s₂ x y) : RL s₁ s₂ (l.set v (some a)) (ρ₁.set v (some x)) (ρ₂.set v (some y)) := by
  refine ⟨by rw [List.length_set, List.length_set]; exact h.n1, by rw [List.length_set, List.length_set]; exact h.n2, fun w b hb => ?_⟩
  unfold Loc.at
  rw [List.getElem?_set] at hb ⊢
  rw [List.getElem?_set]
  by_cases e : v = w
  · subst e
    rw [if_pos rfl, if_pos hv] at hb
    injection hb with hb; subst hb
    rw [if_pos rfl, if_pos (by rw [h.n1]; exact hv), if_pos rfl, if_pos (by rw [h.n2]; exact hv)]
    exact ⟨x, y, rfl, rfl, q⟩
  · rw [if_neg e] at hb
    rw [if_neg e, if_neg e]
    exact h.at' w b hb
theorem Fld.ix_inj : ∀ f g : Fld, f.ctorIdx = g.ctorIdx → f = g := by
  have : (Fld.all.all fun f => Fld.all.all fun g => decide (f.ctorIdx = g.ctorIdx → f = g)) = true := by decide +kernel
  intro f g
  have h := List.all_eq_true.mp this f (Fld.mem_all f)
  exact of_decide_eq_true (List.all_eq_true.mp h g (Fld.mem_all g))
theorem set_some {σ : M} {f : Fld} {v : V} (h : fix f = false) : ∃ σ', σ.set f v = some σ' ∧ σ'.hm = σ.hm := by
  cases f <;> first | exact ⟨_, rfl, rfl⟩ | exact absurd h.symm Bool.false_ne_true
theorem RM.set {A B : AM} {σ τ : M} (h : RM s₁ s₂ A σ τ) {f : Fld} {a : AV} {x y : V} (e : setAv A f a = some B) (q : a.R s₁ s₂ x y) : ∃ σ' τ', σ.set f x = some σ' ∧ τ.set f y = some τ' ∧ RM s₁ s₂ B σ' τ' := by
  have hf : fix f = false := by
    cases hh : fix f with
    | false => rfl
    | true => unfold setAv at e; rw [hh] at e; injection e
  have e : some (A.set f.ctorIdx a) = some B := by unfold setAv at e; rw [hf] at e; exact e
  injection e with e
  subst e
  obtain ⟨σ', e1, h1⟩ := set_some (σ := σ) (v := x) hf
  obtain ⟨τ', e2, h2⟩ := set_some (σ := τ) (v := y) hf
  obtain ⟨m1, g1⟩ := M.get_set e1
  obtain ⟨m2, g2⟩ := M.get_set e2
  refine ⟨σ', τ', e1, e2, ⟨fun g => ?_, by rw [m1, m2]; exact h.m, by rw [m1]; exact h.ok, h1.trans h.h1, h2.trans h.h2⟩⟩
  rw [g1, g2, List.getD_eq_getElem?_getD, List.getElem?_set]
  by_cases k : g = f
  · subst k
    rw [if_pos rfl, if_pos rfl, if_pos rfl]
    by_cases l : g.ctorIdx < A.length
    · rw [if_pos l]; exact q
    · rw [if_neg l]; trivial
  · rw [if_neg k, if_neg k, if_neg (fun z => k (Fld.ix_inj _ _ z.symm)), ← List.getD_eq_getElem?_getD]
    exact h.f g
theorem put_ok {L : List Int} {k x : Int} (h : MemOk L) (hk : 0 ≤ k ∧ k < 65536) (hx : 0 ≤ x ∧ x ≤ 255) : ∃ L', putAt L k x = some L' ∧ MemOk L' := by
  have hl : k.toNat < L.length := by rw [h.1]; omega
  refine ⟨_, if_pos ⟨hk.1, hl⟩, by rw [List.length_set]; exact h.1, fun y hy => ?_⟩
  rcases List.mem_or_eq_of_mem_set hy with q | q
  · exact h.2 y q
  · subst q; exact hx
theorem octA_of {r : Rng} {k : Int} (h : octA r = true) (b : InR r k) : 0 ≤ k ∧ k ≤ 255 := by
  cases r with
  | none => exact absurd h Bool.false_ne_true
  | some r =>
    have := Bool.and_eq_true_iff.mp h
    exact ⟨Int.le_trans (of_decide_eq_true this.1) b.1, Int.le_trans b.2 (of_decide_eq_true this.2)⟩
theorem RM.mem' {A : AM} {σ τ : M} (h : RM s₁ s₂ A σ τ) {L : List Int} (hL : MemOk L) : RM s₁ s₂ A { σ with mem := L } { τ with mem := L } := ⟨fun g => by have := h.f g; cases g <;> exact this, rfl, hL, h.h1, h.h2⟩
theorem least_of {c : Cls} {cf : Nat → List V → M → Option (V × M)} {l : AL} {A : AM} {ρ₁ ρ₂ : Loc} {σ₁ σ₂ : M} (hl : RL s₁ s₂ l ρ₁ ρ₂) (m : RM s₁ s₂ A σ₁ σ₂) {v : Nat} {f : Fld} {τ : M} (h : evE c cf ρ₁ (.cmp .gt (.var v) (.fld f)) σ₁ = some (.bool false, τ)) : RL s₁ s₂ (least l v (((l[v]?).join).bind AV.rng) (A.getD f.ctorIdx .any).rng) ρ₁ ρ₂ := by
  cases e1 : (l[v]?).join with
  | none => exact hl
  | some a =>
    rw [Option.bind_some]
    cases e2 : a.rng with
    | none => exact hl
    | some r =>
      cases r with
      | none => exact hl
      | some r =>
        cases e3 : (A.getD f.ctorIdx .any).rng with
        | none => exact hl
        | some s =>
          cases s with
          | none => exact hl
          | some s =>
            obtain ⟨x, y, p1, p2, q⟩ := hl.at' v a e1
            obtain ⟨i, rfl, rfl, b1⟩ := rng_of e2 q
            obtain ⟨k, g1, g2, b2⟩ := rng_of e3 (m.f f)
            have ev : evE c cf ρ₁ (.cmp .gt (.var v) (.fld f)) σ₁ = some (.bool (decide (i > k)), σ₁) := by
              show onI ((ρ₁.at v).map fun x => (x, σ₁)) (fun i σ₁ => onI (((σ₁.get f).got?).map fun v => (v, σ₁)) fun j σ₂ => some (V.bool (COp.ev .gt i j), σ₂)) = _
              rw [p1]
              show onI (((σ₁.get f).got?).map fun v => (v, σ₁)) (fun j σ₂ => some (V.bool (COp.ev .gt i j), σ₂)) = _
              rw [g1]; rfl
            rw [ev] at h
            injection h with h
            injection h with h
            injection h with h
            have hk : ¬ i > k := of_decide_eq_false h
            have hv : v < l.length := by
              by_cases z : v < l.length
              · exact z
              · rw [List.getElem?_eq_none (Nat.not_lt.mp z)] at e1; injection e1
            show RL s₁ s₂ (l.set v (some (.iv r.1 (if r.2 ≤ s.2 then r.2 else s.2)))) ρ₁ ρ₂
            have := hl.set (a := .iv r.1 (if r.2 ≤ s.2 then r.2 else s.2)) (x := .int i) (y := .int i) hv ⟨i, rfl, rfl, b1.1, by
              split
              · exact b1.2
              · exact Int.le_trans (Int.not_lt.mp hk) b2.2⟩
            have r1 : ρ₁.set v (some (.int i)) = ρ₁ := by
              refine List.ext_getElem? fun w => ?_
              rw [List.getElem?_set]
              by_cases z : v = w
              · subst z
                rw [if_pos rfl, if_pos (by rw [hl.n1]; exact hv)]
                unfold Loc.at at p1
                cases z : ρ₁[v]? with
                | none => rw [z] at p1; injection p1
                | some o => rw [z] at p1; exact congrArg some p1.symm
              · rw [if_neg z]
            have r2 : ρ₂.set v (some (.int i)) = ρ₂ := by
              refine List.ext_getElem? fun w => ?_
              rw [List.getElem?_set]
              by_cases z : v = w
              · subst z
                rw [if_pos rfl, if_pos (by rw [hl.n2]; exact hv)]
                unfold Loc.at at p2
                cases z : ρ₂[v]? with
                | none => rw [z] at p2; injection p2
                | some o => rw [z] at p2; exact congrArg some p2.symm
              · rw [if_neg z]
            rw [r1, r2] at this
            exact this
theorem refine_of {c : Cls} {cf : Nat → List V → M → Option (V × M)} {l : AL} {A : AM} {ρ₁ ρ₂ : Loc} {σ₁ σ₂ : M} (hl : RL s₁ s₂ l ρ₁ ρ₂) (m : RM s₁ s₂ A σ₁ σ₂) {t : E} {τ : M} {v : V} (h : evE c cf ρ₁ t σ₁ = some (v, τ)) (hv : truth v = some false) : RL s₁ s₂ (refine l A t) ρ₁ ρ₂ := by
  cases t <;> try exact hl
  case cmp op a b =>
    cases op <;> try exact hl
    cases a <;> try exact hl
    cases b <;> try exact hl
    case gt.var.fld w f =>
      refine least_of (c := c) (cf := cf) hl m (τ := τ) ?_
      have h' := h
      rw [h]
      have : ∃ q, v = .bool q := by
        have h : onI ((ρ₁.at w).map fun x => (x, σ₁)) (fun i σ₁ => onI (((σ₁.get f).got?).map fun v => (v, σ₁)) fun j σ₂ => some (V.bool (COp.ev .gt i j), σ₂)) = some (v, τ) := h
        obtain ⟨i, σ, _, h⟩ := onI_of h
        obtain ⟨j, σ', _, h⟩ := onI_of h
        injection h with h
        injection h with h
        exact ⟨_, h.symm⟩
      obtain ⟨q, rfl⟩ := this
      injection hv with hv
      subst hv; rfl
section
variable {c : Cls} {cf : Nat → List V → M → Option (V × M)} {acf : Nat → List AV → AM → Option (AV × AM)} (hc : CR s₁ s₂ cf acf)
include hc
mutual
theorem sS : ∀ (s : S) (l : AL) (A : AM) (r : AR) (ρ₁ ρ₂ : Loc) (σ₁ σ₂ : M), absS c acf s l A = some r → RL s₁ s₂ l ρ₁ ρ₂ → RM s₁ s₂ A σ₁ σ₂ → RS s₁ s₂ r (exS c cf s ρ₁ σ₁) (exS c cf s ρ₂ σ₂)
  | .expr e, l, A, r, ρ₁, ρ₂, σ₁, σ₂, h, hl, m => by
    refine map_el h fun x hx e' => ?_
    subst e'
    obtain ⟨v₁, v₂, τ₁, τ₂, e1, e2, _, m1⟩ := sE hc hl e A x σ₁ σ₂ hx m
    show RS s₁ s₂ _ ((evE c cf ρ₁ e σ₁).map _) ((evE c cf ρ₂ e σ₂).map _)
    rw [e1, e2]
    exact .next rfl hl m1
  | .asgV v e, l, A, r, ρ₁, ρ₂, σ₁, σ₂, h, hl, m => by
    refine bind_el h fun x hx h => ?_
    obtain ⟨hv, h⟩ := ite_of h
    injection h with h; subst h
    obtain ⟨v₁, v₂, τ₁, τ₂, e1, e2, q, m1⟩ := sE hc hl e A x σ₁ σ₂ hx m
    show RS s₁ s₂ _ ((evE c cf ρ₁ e σ₁).bind _) ((evE c cf ρ₂ e σ₂).bind _)
    rw [e1, e2, Option.bind_some, Option.bind_some, if_pos (by rw [hl.n1]; exact hv), if_pos (by rw [hl.n2]; exact hv)]
    exact .next rfl (hl.set hv q) m1
  | .asgF f e, l, A, r, ρ₁, ρ₂, σ₁, σ₂, h, hl, m => by
    refine bind_el h fun x hx h => ?_
    obtain ⟨hf, h⟩ := cond_of h
    refine map_el h fun B hB e' => ?_
    subst e'
    obtain ⟨v₁, v₂, τ₁, τ₂, e1, e2, q, m1⟩ := sE hc hl e A x σ₁ σ₂ hx m
    obtain ⟨f1, f2⟩ := flat_of hf q
    obtain ⟨u₁, u₂, g1, g2, m2⟩ := m1.set hB q
    show RS s₁ s₂ _ ((evE c cf ρ₁ e σ₁).bind _) ((evE c cf ρ₂ e σ₂).bind _)
    rw [e1, e2, Option.bind_some, Option.bind_some, f1, f2, Option.bind_some, Option.bind_some, g1, g2]
    exact .next rfl hl m2
  | .asgM i e, l, A, r, ρ₁, ρ₂, σ₁, σ₂, h, hl, m => by
    have h : onA (absE c acf l e A) (fun x A₁ => cond (octA x) (onA (absE c acf l i A₁) fun k A₂ => cond (inT 65536 k) (some (some (l, A₂), none)) none) none) = some r := h
    refine onA_el h fun x i' hx hi h => ?_
    obtain ⟨ho, h⟩ := cond_of h
    refine onA_el h fun y j hy hj h => ?_
    obtain ⟨ht, h⟩ := cond_of h
    injection h with h; subst h
    obtain ⟨k, τ₁, τ₂, e1, e2, b1, m1⟩ := (sE hc hl e A x σ₁ σ₂ hx m).int hi
    obtain ⟨k', u₁, u₂, f1, f2, b2, m2⟩ := (sE hc hl i x.2 y τ₁ τ₂ hy m1).int hj
    obtain ⟨L, hL, ok⟩ := put_ok m2.ok (inT_of ht b2) (octA_of ho b1)
    have ex : ∀ ρ σ, exS c cf (.asgM i e) ρ σ = onI (evE c cf ρ e σ) fun x σ₁ => cond σ₁.hm (onI (evE c cf ρ i σ₁) fun k σ₂ => (putAt σ₂.mem k x).map fun l => (.next, ρ, { σ₂ with mem := l })) none := fun ρ σ => rfl
    rw [ex, ex]
    rw [e1, e2, onI_eq, onI_eq, m1.h1, m1.h2, cond_true, cond_true, f1, f2, onI_eq, onI_eq, m2.m, hL]
    exact .next rfl hl (m2.mem' ok)
  | .augV v op e, l, A, r, ρ₁, ρ₂, σ₁, σ₂, h, hl, m => by
    refine bind_el h fun a ha h => ?_
    refine bind_el h fun ra hra h => ?_
    refine onA_el h fun x i hx hi h => ?_
    refine bind_el h fun t ht h => ?_
    obtain ⟨hv, h⟩ := ite_of h
    injection h with h; subst h
    obtain ⟨p, q, p1, p2, pq⟩ := hl.at' v a ha
    obtain ⟨z, rfl, rfl, bz⟩ := rng_of hra pq
    obtain ⟨k, τ₁, τ₂, e1, e2, b1, m1⟩ := (sE hc hl e A x σ₁ σ₂ hx m).int hi
    obtain ⟨w, hw, bw⟩ := opA_of ht bz b1
    show RS s₁ s₂ _ ((ρ₁.at v).bind _) ((ρ₂.at v).bind _)
    rw [p1, p2, Option.bind_some, Option.bind_some, show (V.int z).int? = some z from rfl, Option.bind_some, Option.bind_some, e1, e2, onI_eq, onI_eq, hw, Option.bind_some, Option.bind_some, if_pos (by rw [hl.n1]; exact hv), if_pos (by rw [hl.n2]; exact hv)]
    exact .next rfl (hl.set hv (mkI_of bw)) m1
  | .augF f op e, l, A, r, ρ₁, ρ₂, σ₁, σ₂, h, hl, m => by
    refine bind_el h fun ra hra h => ?_
    refine onA_el h fun x i hx hi h => ?_
    refine bind_el h fun t ht h => ?_
    refine map_el h fun B hB e' => ?_
    subst e'
    obtain ⟨z, g1, g2, bz⟩ := rng_of hra (m.f f)
    obtain ⟨k, τ₁, τ₂, e1, e2, b1, m1⟩ := (sE hc hl e A x σ₁ σ₂ hx m).int hi
    obtain ⟨w, hw, bw⟩ := opA_of ht bz b1
    obtain ⟨u₁, u₂, k1, k2, m2⟩ := m1.set hB (mkI_of (s₁ := s₁) (s₂ := s₂) bw)
    show RS s₁ s₂ _ ((σ₁.get f).int?.bind _) ((σ₂.get f).int?.bind _)
    rw [g1, g2, show (V.int z).int? = some z from rfl, Option.bind_some, Option.bind_some, e1, e2, onI_eq, onI_eq, hw, Option.bind_some, Option.bind_some, k1, k2]
    exact .next rfl hl m2
  | .ite t a b, l, A, r, ρ₁, ρ₂, σ₁, σ₂, h, hl, m => by
    refine bind_el h fun x hx h => ?_
    refine bind_el h fun q hq h => ?_
    obtain ⟨v₁, v₂, τ₁, τ₂, e1, e2, p, m1⟩ := sE hc hl t A x σ₁ σ₂ hx m
    obtain ⟨d, t1, t2, hd⟩ := tr_of hq p
    show RS s₁ s₂ _ ((evE c cf ρ₁ t σ₁).bind _) ((evE c cf ρ₂ t σ₂).bind _)
    rw [e1, e2, Option.bind_some, Option.bind_some, t1, t2, Option.bind_some, Option.bind_some]
    rcases hd with rfl | rfl
    · cases d with
      | true => exact sSs a l x.2 r ρ₁ ρ₂ τ₁ τ₂ h hl m1
      | false => exact sSs b l x.2 r ρ₁ ρ₂ τ₁ τ₂ h hl m1
    · refine bind_el h fun y hy h => ?_
      refine bind_el h fun z hz h => ?_
      cases d with
      | true => exact joinR_of h (.inl (sSs a l x.2 y ρ₁ ρ₂ τ₁ τ₂ hy hl m1))
      | false => exact joinR_of h (.inr (sSs b _ x.2 z ρ₁ ρ₂ τ₁ τ₂ hz (refine_of hl m e1 t1) m1))
  | .ret e, l, A, r, ρ₁, ρ₂, σ₁, σ₂, h, hl, m => by
    refine map_el h fun x hx e' => ?_
    subst e'
    obtain ⟨v₁, v₂, τ₁, τ₂, e1, e2, q, m1⟩ := sE hc hl e A x σ₁ σ₂ hx m
    show RS s₁ s₂ _ ((evE c cf ρ₁ e σ₁).map _) ((evE c cf ρ₂ e σ₂).map _)
    rw [e1, e2]
    exact .ret rfl q m1
  | .ret0, l, A, r, ρ₁, ρ₂, σ₁, σ₂, h, hl, m => by injection h with h; subst h; exact .ret rfl cst_R m
  | .pass, l, A, r, ρ₁, ρ₂, σ₁, σ₂, h, hl, m => by injection h with h; subst h; exact .next rfl hl m
theorem sSs : ∀ (s : Ss) (l : AL) (A : AM) (r : AR) (ρ₁ ρ₂ : Loc) (σ₁ σ₂ : M), absSs c acf s l A = some r → RL s₁ s₂ l ρ₁ ρ₂ → RM s₁ s₂ A σ₁ σ₂ → RS s₁ s₂ r (exSs c cf s ρ₁ σ₁) (exSs c cf s ρ₂ σ₂)
  | .nil, l, A, r, ρ₁, ρ₂, σ₁, σ₂, h, hl, m => by injection h with h; subst h; exact .next rfl hl m
  | .cons s t, l, A, r, ρ₁, ρ₂, σ₁, σ₂, h, hl, m => by
    refine bind_el h fun q hq h => ?_
    have k := sS s l A q ρ₁ ρ₂ σ₁ σ₂ hq hl m
    show RS s₁ s₂ _ ((exS c cf s ρ₁ σ₁).bind _) ((exS c cf s ρ₂ σ₂).bind _)
    generalize exS c cf s ρ₁ σ₁ = o₁ at k ⊢
    generalize exS c cf s ρ₂ σ₂ = o₂ at k ⊢
    cases k with
    | next e hl' m' =>
      rw [e] at h
      refine map_el h fun q₂ hq₂ e' => ?_
      subst e'
      have k2 := sSs t _ _ q₂ _ _ _ _ hq₂ hl' m'
      rw [Option.bind_some, Option.bind_some]
      dsimp only
      generalize exSs c cf t _ _ = o₁ at k2 ⊢
      generalize exSs c cf t _ _ = o₂ at k2 ⊢
      cases k2 with
      | next e2 hl2 m2 => exact .next e2 hl2 m2
      | ret e2 p m2 =>
        obtain ⟨b, B, eb, f1, f2⟩ := joinT_r (s₁ := s₁) (s₂ := s₂) (p := q.2)
        exact .ret (by show joinT q.2 q₂.2 = _; rw [e2]; exact eb) (f1 _ _ p) (f2 _ _ m2)
    | ret e p m' =>
      have : ∃ r2, r.2 = joinT q.2 r2 := by
        cases hq1 : q.1 with
        | none => rw [hq1] at h; injection h with h; subst h; exact ⟨none, by rw [e]; rfl⟩
        | some x =>
          rw [hq1] at h
          refine map_el h fun q₂ hq₂ e' => ?_
          subst e'
          exact ⟨_, rfl⟩
      obtain ⟨r2, er⟩ := this
      obtain ⟨b, B, eb, f1, f2⟩ := joinT_l (s₁ := s₁) (s₂ := s₂) (q := r2)
      exact .ret (by rw [er, e]; exact eb) (f1 _ _ p) (f2 _ _ m')
end
end
theorem zipat {avs : List AV} {a₁ a₂ : List V} (n1 : avs.length = a₁.length) (n2 : avs.length = a₂.length) (h : ∀ (i : Nat) (a : AV), avs[i]? = some a → ∃ x y, a₁[i]? = some x ∧ a₂[i]? = some y ∧ a.R s₁ s₂ x y) (k : Nat) :
    RL s₁ s₂ ((some (AV.cst .self) :: avs.map some) ++ List.replicate k none) ((some V.self :: a₁.map some) ++ List.replicate k none) ((some V.self :: a₂.map some) ++ List.replicate k none) := by
  refine ⟨by simp [n1], by simp [n2], fun v a hv => ?_⟩
  unfold Loc.at
  cases v with
  | zero => injection hv with hv; subst hv; exact ⟨_, _, rfl, rfl, cst_R⟩
  | succ v =>
    rw [List.cons_append, List.getElem?_cons_succ] at hv ⊢
    rw [List.cons_append, List.getElem?_cons_succ]
    by_cases q : v < avs.length
    · rw [List.getElem?_append_left (by rw [List.length_map]; exact q), List.getElem?_map] at hv
      rw [List.getElem?_append_left (by rw [List.length_map, ← n1]; exact q), List.getElem?_append_left (by rw [List.length_map, ← n2]; exact q), List.getElem?_map, List.getElem?_map]
      cases e : avs[v]? with
      | none => rw [e] at hv; injection hv
      | some b =>
        rw [e] at hv
        injection hv with hv; subst hv
        obtain ⟨x, y, e1, e2, r⟩ := h v b e
        exact ⟨x, y, by rw [e1]; rfl, by rw [e2]; rfl, r⟩
    · rw [List.getElem?_append_right (by rw [List.length_map]; exact Nat.not_lt.mp q), List.getElem?_replicate] at hv
      split at hv <;> injection hv
theorem sM (c : Cls) : ∀ d, CR s₁ s₂ (callM c d) (absM c d)
  | 0 => fun m avs a₁ a₂ A σ₁ σ₂ r h => nomatch h
  | d + 1 => fun k avs a₁ a₂ A σ₁ σ₂ r h m n1 n2 ha => by
    refine bind_el h fun md hmd h => ?_
    obtain ⟨hn, h⟩ := ite_of h
    refine bind_el h fun q hq h => ?_
    have z := sSs (sM c d) md.body _ A q _ _ σ₁ σ₂ hq (zipat n1 n2 ha (md.vars.length - md.np)) m
    show Res s₁ s₂ r ((c.P[k]?).bind _) ((c.P[k]?).bind _)
    rw [hmd, Option.bind_some, Option.bind_some, if_pos (by rw [← n1]; exact hn), if_pos (by rw [← n2]; exact hn)]
    generalize exSs c (callM c d) md.body _ σ₁ = o₁ at z ⊢
    generalize exSs c (callM c d) md.body _ σ₂ = o₂ at z ⊢
    cases z with
    | next e hl m' =>
      rw [e] at h
      obtain ⟨b, B, eb, f1, f2⟩ := joinT_l (s₁ := s₁) (s₂ := s₂) (a := .cst .none) (q := q.2)
      have e3 := eb.symm.trans h
      injection e3 with e3
      subst e3
      exact ⟨_, _, _, _, rfl, rfl, f1 _ _ cst_R, f2 _ _ m'⟩
    | ret e p m' =>
      obtain ⟨b, B, eb, f1, f2⟩ := joinT_r (s₁ := s₁) (s₂ := s₂) (p := q.1.map fun x => (AV.cst .none, x.2))
      rw [e] at h
      have e3 := eb.symm.trans h
      injection e3 with e3
      subst e3
      exact ⟨_, _, _, _, rfl, rfl, f1 _ _ p, f2 _ _ m'⟩
end Mine

end
section
open PySem PySem.W PyProof.Rows
set_option maxRecDepth 100000
set_option maxHeartbeats 0
namespace Mine
noncomputable def A0 : AM := [.iv 0 65530, .iv 0 255, .iv 0 255, .iv 0 255, .iv 0 255, .iv 0 255, .num, .any, .any, .st, .iv 255 255, .iv 65535 65535, .iv 65280 65280, .iv 256 256, .cst .memr, .cst .txt]
noncomputable def A1 : AM := [.iv 0 65535, .iv 0 255, .iv 0 255, .iv 0 255, .iv 0 255, .iv 0 255, .num, .any, .any, .st, .iv 255 255, .iv 65535 65535, .iv 65280 65280, .iv 256 256, .cst .memr, .cst .txt]
noncomputable def subs : AM → AM → Bool
  | [], [] => true
  | a :: A, b :: B => a.sub b && subs A B
  | _, _ => false
noncomputable def okM (m : Nat) : Bool := match absM cls deep m [] A0 with
  | some r => subs r.2 A1
  | none => false
theorem ok_irq : okM i_irq = true := by decide +kernel
theorem ok_nmi : okM i_nmi = true := by decide +kernel
theorem ok_step : okM i_step = true := by decide +kernel
theorem subs_of {s₁ s₂ : V} : ∀ {A B : AM}, subs A B = true → ∀ (i : Nat) {v w : V}, (A.getD i .any).R s₁ s₂ v w → (B.getD i .any).R s₁ s₂ v w
  | [], [], _, _, _, _, r => r
  | a :: A, b :: B, h, 0, _, _, r => sub_of (Bool.and_eq_true_iff.mp h).1 r
  | a :: A, b :: B, h, i + 1, _, _, r => subs_of (A := A) (B := B) (Bool.and_eq_true_iff.mp h).2 i r
structure Rg where
  pc : Int
  a : Int
  x : Int
  y : Int
  sp : Int
  p : Int
  cyc : Int
noncomputable def Rg.l (G : Rg) : List Int := [G.pc, G.a, G.x, G.y, G.sp, G.p, G.cyc]
noncomputable def mk1 (G : Rg) (e f s : V) (m : List Int) : M := ⟨.int G.pc, .int G.a, .int G.x, .int G.y, .int G.sp, .int G.p, .int G.cyc, e, f, s, .int 255, .int 65535, .int 65280, .int 256, true, true, m⟩
structure Bd (G : Rg) (m : List Int) : Prop where
  pc : 0 ≤ G.pc ∧ G.pc ≤ 65535
  a : 0 ≤ G.a ∧ G.a ≤ 255
  x : 0 ≤ G.x ∧ G.x ≤ 255
  y : 0 ≤ G.y ∧ G.y ≤ 255
  sp : 0 ≤ G.sp ∧ G.sp ≤ 255
  p : 0 ≤ G.p ∧ G.p ≤ 255
  m : MemOk m
theorem rm_of {G : Rg} {m : List Int} {e f e' f' s₁ s₂ : V} (B : Bd G m) (h : G.pc ≤ 65530) : RM s₁ s₂ A0 (mk1 G e f s₁ m) (mk1 G e' f' s₂ m) := by
  refine ⟨fun g => ?_, rfl, B.m, rfl, rfl⟩
  cases g
  case pc => exact ⟨_, rfl, rfl, B.pc.1, h⟩
  case a => exact ⟨_, rfl, rfl, B.a.1, B.a.2⟩
  case x => exact ⟨_, rfl, rfl, B.x.1, B.x.2⟩
  case y => exact ⟨_, rfl, rfl, B.y.1, B.y.2⟩
  case sp => exact ⟨_, rfl, rfl, B.sp.1, B.sp.2⟩
  case p => exact ⟨_, rfl, rfl, B.p.1, B.p.2⟩
  case cyc => exact ⟨_, rfl, rfl⟩
  case exc => trivial
  case addc => trivial
  case start => exact ⟨rfl, rfl⟩
  case bm => exact ⟨_, rfl, rfl, Int.le_refl _, Int.le_refl _⟩
  case am => exact ⟨_, rfl, rfl, Int.le_refl _, Int.le_refl _⟩
  case ahm => exact ⟨_, rfl, rfl, Int.le_refl _, Int.le_refl _⟩
  case spb => exact ⟨_, rfl, rfl, Int.le_refl _, Int.le_refl _⟩
  case mem => exact ⟨rfl, rfl⟩
  case name => exact ⟨rfl, rfl⟩
theorem of_rm {s₁ s₂ : V} {σ τ : M} (r : RM s₁ s₂ A1 σ τ) : ∃ G e f e' f' m, Bd G m ∧ σ = mk1 G e f s₁ m ∧ τ = mk1 G e' f' s₂ m := by
  obtain ⟨f, hm, ok, h1, h2⟩ := r
  obtain ⟨pc, a, x, y, sp, p, cyc, exc, addc, start, bm, am, ahm, spb, hm1, hn1, m⟩ := σ
  obtain ⟨pc', a', x', y', sp', p', cyc', exc', addc', start', bm', am', ahm', spb', hm2, hn2, m'⟩ := τ
  obtain ⟨_, q1, q1', b1⟩ := f .pc
  obtain ⟨_, q2, q2', b2⟩ := f .a
  obtain ⟨_, q3, q3', b3⟩ := f .x
  obtain ⟨_, q4, q4', b4⟩ := f .y
  obtain ⟨_, q5, q5', b5⟩ := f .sp
  obtain ⟨_, q6, q6', b6⟩ := f .p
  obtain ⟨_, q7, q7'⟩ := f .cyc
  obtain ⟨q8, q8'⟩ := f .start
  obtain ⟨i9, q9, q9', b9⟩ := f .bm
  obtain ⟨i10, q10, q10', b10⟩ := f .am
  obtain ⟨i11, q11, q11', b11⟩ := f .ahm
  obtain ⟨i12, q12, q12', b12⟩ := f .spb
  obtain ⟨q13, q13'⟩ := f .name
  obtain rfl : i9 = 255 := Int.le_antisymm b9.2 b9.1
  obtain rfl : i10 = 65535 := Int.le_antisymm b10.2 b10.1
  obtain rfl : i11 = 65280 := Int.le_antisymm b11.2 b11.1
  obtain rfl : i12 = 256 := Int.le_antisymm b12.2 b12.1
  have n1 : hn1 = true := by
    cases hn1
    · injection q13
    · rfl
  have n2 : hn2 = true := by
    cases hn2
    · injection q13'
    · rfl
  dsimp only [M.get] at q1 q1' q2 q2' q3 q3' q4 q4' q5 q5' q6 q6' q7 q7' q8 q8' q9 q9' q10 q10' q11 q11' q12 q12' h1 h2 hm ok
  subst q1 q1' q2 q2' q3 q3' q4 q4' q5 q5' q6 q6' q7 q7' q8 q8' q9 q9' q10 q10' q11 q11' q12 q12' h1 h2 hm n1 n2
  exact ⟨⟨_, _, _, _, _, _, _⟩, _, _, _, _, _, ⟨b1, b2, b3, b4, b5, b6, ok⟩, rfl, rfl⟩
theorem both {k : Nat} (hk : okM k = true) {G : Rg} {m : List Int} {e f e' f' s₁ s₂ : V} (B : Bd G m) (h : G.pc ≤ 65530) : ∃ G' m' v w e1 f1 e2 f2, Bd G' m' ∧ callM cls deep k [] (mk1 G e f s₁ m) = some (v, mk1 G' e1 f1 s₁ m') ∧ callM cls deep k [] (mk1 G e' f' s₂ m) = some (w, mk1 G' e2 f2 s₂ m') := by
  unfold okM at hk
  split at hk
  · rename_i r hr
    obtain ⟨v, w, τ₁, τ₂, h1, h2, _, rm⟩ := sM (s₁ := s₁) (s₂ := s₂) cls deep k [] [] [] A0 _ _ r hr (rm_of (e := e) (f := f) (e' := e') (f' := f') B h) rfl rfl fun i a h => nomatch h
    have r1 : RM s₁ s₂ A1 τ₁ τ₂ := ⟨fun g => subs_of hk _ (rm.f g), rm.m, rm.ok, rm.h1, rm.h2⟩
    obtain ⟨G', e1, f1, e2, f2, m', B', rfl, rfl⟩ := of_rm r1
    exact ⟨G', m', v, w, e1, f1, e2, f2, B', h1, h2⟩
  · injection hk
end Mine

end
section
open PySem PySem.W PyProof.Rows
set_option maxRecDepth 100000
set_option maxHeartbeats 0
set_option linter.unusedVariables false
namespace Mine
section
variable {c : Cls} {im fuel : Nat} {cf : Nat → List LV → Option LV} {ρ ρ' ρ₁ ρ₂ : LLoc}
theorem evL_bin {op : LOp} {a b : LE} : evL cf (.bin op a b) ρ = (evL cf a ρ).bind fun x => (evL cf b ρ).bind fun y => binV op x y := by kernel_rfl
theorem evL_comp {elt : LE} {caps : List Nat} {src : LSrc} : evL cf (.comp elt caps src) ρ = (evSrc cf src ρ).bind fun items => (mapO asInt items).bind fun _ => (mapO (fun it => (evL cf elt (maskL caps ρ ++ [some it])).bind LV.int?) items).map LV.ints := by kernel_rfl
theorem exL_asg {v : Nat} {e : LE} : exL c im fuel cf (.asg v e) ρ = (evL cf e ρ).bind fun x => (putV ρ v x).map fun ρ' => (.next, ρ') := by kernel_rfl
theorem exL_asgT {rev : Bool} {ts : List LT} {es : LEs} : exL c im fuel cf (.asgT rev ts es) ρ = (evLs cf es ρ).bind fun vs => (cond rev (storeTs cf vs.reverse ts.reverse ρ) (storeTs cf vs ts ρ)).map fun ρ' => (.next, ρ') := by kernel_rfl
theorem exL_ite {t : LE} {a b : LSs} : exL c im fuel cf (.ite t a b) ρ = (evL cf t ρ).bind fun v => (truthL v).bind fun q => cond q (exLs c im fuel cf a ρ) (exLs c im fuel cf b ρ) := by kernel_rfl
theorem exL_for {tg : LTg} {src : LSrc} {b : LSs} : exL c im fuel cf (.for tg src b) ρ = (evSrc cf src ρ).bind fun items => forL (bindTg tg) (fun ρ => exLs c im fuel cf b ρ) items ρ := by kernel_rfl
theorem exL_sub {v : Nat} {i e : LE} : exL c im fuel cf (.sub v i e) ρ = (evL cf e ρ).bind fun u => u.int?.bind fun x => (evL cf i ρ).bind fun w => w.int?.bind fun k => (putSub ρ v k x).map fun ρ' => (.next, ρ') := by kernel_rfl
theorem exLs_go {s : LS} {r : LSs} (h : exL c im fuel cf s ρ = some (.next, ρ')) : exLs c im fuel cf (.cons s r) ρ = exLs c im fuel cf r ρ' := by
  show (exL c im fuel cf s ρ).bind _ = _
  rw [h]; rfl
theorem exLs_brk {s : LS} {r : LSs} (h : exL c im fuel cf s ρ = some (.brk, ρ')) : exLs c im fuel cf (.cons s r) ρ = some (.brk, ρ') := by
  show (exL c im fuel cf s ρ).bind _ = _
  rw [h]; rfl
theorem exLs_ret {s : LS} {r : LSs} {x : LV} (h : exL c im fuel cf s ρ = some (.ret x, ρ')) : exLs c im fuel cf (.cons s r) ρ = some (.ret x, ρ') := by
  show (exL c im fuel cf s ρ).bind _ = _
  rw [h]; rfl
theorem forL_go {bind : LV → LLoc → Option LLoc} {body : LLoc → Option (LFl × LLoc)} {v : LV} {r : List LV} (h1 : bind v ρ = some ρ₁) (h2 : body ρ₁ = some (.next, ρ₂)) : forL bind body (v :: r) ρ = forL bind body r ρ₂ := by
  show (bind v ρ).bind _ = _
  rw [h1, Option.bind_some, h2]; rfl
theorem forL_brk {bind : LV → LLoc → Option LLoc} {body : LLoc → Option (LFl × LLoc)} {v : LV} {r : List LV} (h1 : bind v ρ = some ρ₁) (h2 : body ρ₁ = some (.brk, ρ₂)) : forL bind body (v :: r) ρ = some (.next, ρ₂) := by
  show (bind v ρ).bind _ = _
  rw [h1, Option.bind_some, h2]; rfl
end
end Mine

end
section
open PySem PySem.W PyProof.Rows
set_option maxRecDepth 100000
set_option maxHeartbeats 0
set_option linter.unusedVariables false
namespace Mine
section
variable {c : Cls} {im fuel : Nat} {cf : Nat → List LV → Option LV} {ρ ρ' ρ₁ ρ₂ : LLoc}
theorem mapO_at' : ∀ xs : List Int, mapO asAt (xs.map LV.int) = some (xs.map At.int)
  | [] => rfl
  | x :: xs => by
    show (mapO asAt (xs.map LV.int)).map _ = _
    rw [mapO_at' xs]; rfl
theorem mapO_int' : ∀ xs : List Int, mapO At.int? (xs.map At.int) = some xs
  | [] => rfl
  | x :: xs => by
    show (mapO At.int? (xs.map At.int)).map _ = _
    rw [mapO_int' xs]; rfl
theorem ev_tup {es : LEs} {xs : List Int} (h : evLs cf es ρ = some (xs.map LV.int)) (hl : xs.length ≤ lim) : evL cf (.tup es) ρ = some (.tup (xs.map At.int)) := by
  show (evLs cf es ρ).bind _ = _
  rw [h]
  show (if (xs.map LV.int).length ≤ lim then _ else _) = _
  rw [if_pos (by rw [List.length_map]; exact hl), show mapO asAt (xs.map LV.int) = _ from mapO_at' xs]; rfl
end
end Mine

end
section
open PySem PySem.W PyProof.Rows
set_option maxRecDepth 100000
set_option maxHeartbeats 0
set_option linter.unusedVariables false
set_option linter.unusedSectionVars false
namespace Mine
section
variable {cf : Nat → List LV → Option LV} {ρ ρ' : LLoc}
theorem asg_of {v : Nat} {e : LE} {x : LV} {ρ' : LLoc} (h : evL cf e ρ = some x) (hp : putV ρ v x = some ρ') : exL cls iInit theFuel cf (.asg v e) ρ = some (.next, ρ') := by
  rw [exL_asg, h, Option.bind_some, hp]; rfl
theorem bin_int {op : LOp} {a b : LE} {x y r : Int} (h1 : evL cf a ρ = some (.int x)) (h2 : evL cf b ρ = some (.int y)) (h : op.ev x y = some r) : evL cf (.bin op a b) ρ = some (.int r) := by
  rw [evL_bin, h1, Option.bind_some, h2, Option.bind_some]
  show (op.ev x y).map LV.int = _
  rw [h]; rfl
theorem add_i {a b : LE} {x y : Int} (h1 : evL cf a ρ = some (.int x)) (h2 : evL cf b ρ = some (.int y)) : evL cf (.bin .add a b) ρ = some (.int (x + y)) := bin_int h1 h2 rfl
theorem mul_r {a b : LE} {x y : Int} (h1 : evL cf a ρ = some (.int x)) (h2 : evL cf b ρ = some (.int y)) (h : x.natAbs < 2 ^ 63 ∨ y.natAbs < 2 ^ 63) : evL cf (.bin .mul a b) ρ = some (.int (x * y)) := bin_int h1 h2 (if_pos h)
theorem mod_i {a b : LE} {x y : Int} (h1 : evL cf a ρ = some (.int x)) (h2 : evL cf b ρ = some (.int y)) (h : 0 < y) : evL cf (.bin .mod a b) ρ = some (.int (x % y)) :=
  bin_int h1 h2 ((if_pos (Int.ne_of_gt h)).trans (by rw [Int.fmod_eq_emod_of_nonneg _ (Int.le_of_lt h)]))
theorem div_i {a b : LE} {x y : Int} (h1 : evL cf a ρ = some (.int x)) (h2 : evL cf b ρ = some (.int y)) (h : 0 < y) (h' : y.natAbs < 1073741824) : evL cf (.bin .fdiv a b) ρ = some (.int (x / y)) :=
  bin_int h1 h2 ((if_pos ⟨Int.ne_of_gt h, h'⟩).trans (by rw [Int.fdiv_eq_ediv_of_nonneg _ (Int.le_of_lt h)]))
theorem int_i {i : Int} : evL cf (.int i) ρ = some (.int i) := by kernel_rfl
noncomputable def FR (ns dr m₁ : List Int) (q : Option (Int × Int)) (o one two s8 s9 s10 s11 : Option LV) : LLoc := [some (.ints ns), some (.ints dr), some (.own m₁), q.map fun p => LV.int p.1, q.map fun p => LV.int p.2, o, one, two, s8, s9, s10, s11]
noncomputable def LM (ns dr : List Int) (q : Option (Int × Int)) (m₁ m₂ : List Int) (G₁ : Rg) (e₁ f₁ : V) (G₂ : Rg) (e₂ f₂ s₂ : V) (s8 s9 : Option Int) (s10 s11 : Option M) : LLoc :=
  FR ns dr m₁ q (some (.own m₂)) (some (.mpu (mk1 G₁ e₁ f₁ (.int 512) []) 2)) (some (.mpu (mk1 G₂ e₂ f₂ s₂ []) 5)) (s8.map LV.int) (s9.map LV.int) (s10.map fun σ => .mpu σ 5) (s11.map fun σ => .mpu σ 5)
variable {ns dr m m₁ m₂ : List Int} {q : Option (Int × Int)} {G G₁ G₂ G' : Rg} {e₁ f₁ e₂ f₂ s₂ e f st : V} {s8 s9 : Option Int} {s10 s11 : Option M}
theorem ble_mem (h : MemOk m) : Nat.ble m.length lim = true := by rw [h.1]; decide
theorem step1 {k : Nat} {v : V} {e f : V} (h : callM cls deep k [] (mk1 G₁ e₁ f₁ (.int 512) m₁) = some (v, mk1 G' e f (.int 512) m)) (hm : MemOk m) : stepL cls (LM ns dr q m₁ m₂ G₁ e₁ f₁ G₂ e₂ f₂ s₂ s8 s9 s10 s11) 6 k = some (LM ns dr q m m₂ G' e f G₂ e₂ f₂ s₂ s8 s9 s10 s11) := by
  have h0 : stepL cls (LM ns dr q m₁ m₂ G₁ e₁ f₁ G₂ e₂ f₂ s₂ s8 s9 s10 s11) 6 k = (callM cls deep k [] (mk1 G₁ e₁ f₁ (.int 512) m₁)).bind fun r => cond (Nat.ble r.2.mem.length lim) (backL (LM ns dr q m₁ m₂ G₁ e₁ f₁ G₂ e₂ f₂ s₂ s8 s9 s10 s11) 6 2 r.2) none := by kernel_rfl
  rw [h0, h, Option.bind_some]
  show cond (Nat.ble m.length lim) _ none = _
  rw [ble_mem hm]
  kernel_rfl
theorem step2 {k : Nat} {v : V} {e f : V} (h : callM cls deep k [] (mk1 G₂ e₂ f₂ s₂ m₂) = some (v, mk1 G' e f s₂ m)) (hm : MemOk m) : stepL cls (LM ns dr q m₁ m₂ G₁ e₁ f₁ G₂ e₂ f₂ s₂ s8 s9 s10 s11) 7 k = some (LM ns dr q m₁ m G₁ e₁ f₁ G' e f s₂ s8 s9 s10 s11) := by
  have h0 : stepL cls (LM ns dr q m₁ m₂ G₁ e₁ f₁ G₂ e₂ f₂ s₂ s8 s9 s10 s11) 7 k = (callM cls deep k [] (mk1 G₂ e₂ f₂ s₂ m₂)).bind fun r => cond (Nat.ble r.2.mem.length lim) (backL (LM ns dr q m₁ m₂ G₁ e₁ f₁ G₂ e₂ f₂ s₂ s8 s9 s10 s11) 7 5 r.2) none := by kernel_rfl
  rw [h0, h, Option.bind_some]
  show cond (Nat.ble m.length lim) _ none = _
  rw [ble_mem hm]
  kernel_rfl
noncomputable def new0 (pc : Int) : Rg := ⟨pc, 0, 0, 0, 255, 48, 0⟩
theorem made {pc : Int} : callM cls deep iInit [.memr, .int pc] { unsetM with mem := m } = some (.none, mk1 (new0 pc) (.int 0) (.bool false) (.int pc) m) := by kernel_rfl
theorem free_ok {v : Nat} (hv : v ≠ 2 ∧ v ≠ 5) : free (LM ns dr q m₁ m₂ G₁ e₁ f₁ G₂ e₂ f₂ s₂ s8 s9 s10 s11) v = true := by
  have h2 : Nat.beq 2 v = false := Bool.eq_false_iff.mpr fun h => hv.1 (Nat.eq_of_beq_eq_true h).symm
  have h5 : Nat.beq 5 v = false := Bool.eq_false_iff.mpr fun h => hv.2 (Nat.eq_of_beq_eq_true h).symm
  have ho : ∀ (o : Option Int), (o.map LV.int).bind LV.mpu? = none := fun o => by cases o <;> rfl
  have hp : ∀ (f : Int × Int → Int), (q.map fun p => LV.int (f p)).bind LV.mpu? = none := fun f => by cases q <;> rfl
  have hm : ∀ (o : Option M), ((o.map fun σ => LV.mpu σ 5).bind LV.mpu?).all (fun p => !Nat.beq p.2 v) = true := fun o => by
    cases o
    · rfl
    · show (!Nat.beq 5 v) = true
      rw [h5]; rfl
  have hf : ∀ {o : Option LV} {ρ : LLoc}, (o.bind LV.mpu?).all (fun p => !Nat.beq p.2 v) = true → free ρ v = true → free (o :: ρ) v = true := fun h1 h2 => Bool.and_eq_true_iff.mpr ⟨h1, h2⟩
  have hn : ∀ {o : Option LV}, o.bind LV.mpu? = none → (o.bind LV.mpu?).all (fun p => !Nat.beq p.2 v) = true := fun h => by rw [h]; rfl
  exact hf rfl (hf rfl (hf rfl (hf (hn (hp _)) (hf (hn (hp _)) (hf rfl (hf (by show (!Nat.beq 2 v) = true; rw [h2]; rfl) (hf (by show (!Nat.beq 5 v) = true; rw [h5]; rfl) (hf (hn (ho _)) (hf (hn (ho _)) (hf (hm _) (hf (hm _) rfl)))))))))))
noncomputable def LO (ns dr : List Int) (q : Option (Int × Int)) (m₁ m₂ : List Int) (G₁ : Rg) (e₁ f₁ : V) (s8 s9 : Option Int) (σ : M) : LLoc :=
  FR ns dr m₁ q (some (.own m₂)) (some (.mpu (mk1 G₁ e₁ f₁ (.int 512) []) 2)) none (s8.map LV.int) (s9.map LV.int) (some (.mpu σ 5)) none
theorem mv_ok : exL cls iInit theFuel cf (.mv 10 7) (LM ns dr q m₁ m₂ G₁ e₁ f₁ G₂ e₂ f₂ s₂ s8 s9 s10 none) = some (.next, LO ns dr q m₁ m₂ G₁ e₁ f₁ s8 s9 (mk1 G₂ e₂ f₂ s₂ [])) := by
  cases q <;> cases s8 <;> cases s9 <;> cases s10 <;> kernel_rfl
theorem mk_ok {v mv : Nat} {ex : LE} {pc : LV} {p : V} {τ : M} {xs : List Int} (h1 : ρ.at mv = some (.own xs)) (h2 : evL cf ex ρ = some pc) (h3 : toV pc = some p) (h4 : callM cls deep iInit [.memr, p] { unsetM with mem := xs } = some (.none, τ)) (h5 : free ρ v = true) (h6 : Nat.beq v mv = false) (h7 : Nat.ble τ.mem.length lim = true) (h8 : backL ρ v mv τ = some ρ') :
    exL cls iInit theFuel cf (.mk v mv ex) ρ = some (.next, ρ') := by
  have h0 : exL cls iInit theFuel cf (.mk v mv ex) ρ = (evL cf ex ρ).bind fun x => (mkL cls iInit ρ v mv x).map fun ρ' => (.next, ρ') := by kernel_rfl
  have h9 : mkL cls iInit ρ v mv pc = (ρ.at mv).bind fun w => w.own?.bind fun xs => (toV pc).bind fun p => (callM cls deep iInit [.memr, p] { unsetM with mem := xs }).bind fun r => cond (r.1.isNone && free ρ v && !Nat.beq v mv && Nat.ble r.2.mem.length lim) (backL ρ v mv r.2) none := by kernel_rfl
  rw [h0, h2, Option.bind_some, h9, h1, Option.bind_some, show (LV.own xs).own? = some xs from rfl, Option.bind_some, h3, Option.bind_some, h4, Option.bind_some]
  dsimp only
  rw [h5, h6, h7, h8]; rfl
theorem mk2_ok {pc : Int} {e' f' s' : V} (hm : MemOk m₂) (hp : G₂.pc = pc) : exL cls iInit theFuel cf (.mk 7 5 (.attr 10 .pc)) (LO ns dr q m₁ m₂ G₁ e₁ f₁ s8 s9 (mk1 G₂ e₂ f₂ s₂ [])) = some (.next, LM ns dr q m₁ m₂ G₁ e₁ f₁ (new0 pc) (.int 0) (.bool false) (.int pc) s8 s9 (some (mk1 G₂ e₂ f₂ s₂ [])) none) := by
  refine mk_ok (pc := .int G₂.pc) (p := .int G₂.pc) (xs := m₂) (by kernel_rfl) (by kernel_rfl) (by kernel_rfl) made ?_ (by kernel_rfl) (ble_mem hm) (by rw [hp]; kernel_rfl)
  cases q <;> cases s8 <;> cases s9 <;> kernel_rfl
theorem st_attr {v : Nat} {g : Fld} {n : Int} {xs : List LV} {ts : List LT} (h : setA ρ v g n = some ρ') : storeTs cf (LV.int n :: xs) (.attr v g :: ts) ρ = storeTs cf xs ts ρ' := by
  have q0 : storeTs cf (LV.int n :: xs) (.attr v g :: ts) ρ = (setA ρ v g n).bind fun ρ' => storeTs cf xs ts ρ' := by kernel_rfl
  rw [q0, h, Option.bind_some]
noncomputable def Rg.put (G : Rg) (g : Fld) (n : Int) : Rg := match g with
  | .a => { G with a := n } | .x => { G with x := n } | .y => { G with y := n } | .sp => { G with sp := n } | .p => { G with p := n } | .cyc => { G with cyc := n } | _ => { G with pc := n }
theorem set_two {g : Fld} {n : Int} (hm : MemOk m₂) (hg : g = .a ∨ g = .x ∨ g = .y ∨ g = .sp ∨ g = .p ∨ g = .cyc) : setA (LM ns dr q m₁ m₂ G₁ e₁ f₁ G₂ e₂ f₂ s₂ s8 s9 s10 s11) 7 g n = some (LM ns dr q m₁ m₂ G₁ e₁ f₁ (G₂.put g n) e₂ f₂ s₂ s8 s9 s10 s11) := by
  have h0 : setA (LM ns dr q m₁ m₂ G₁ e₁ f₁ G₂ e₂ f₂ s₂ s8 s9 s10 s11) 7 g n = cond (Nat.ble m₂.length lim) (some (LM ns dr q m₁ m₂ G₁ e₁ f₁ (G₂.put g n) e₂ f₂ s₂ s8 s9 s10 s11)) none := by
    rcases hg with rfl | rfl | rfl | rfl | rfl | rfl <;> kernel_rfl
  rw [h0, ble_mem hm]; rfl
theorem ev_ok {v k : Nat} {i : Int} {ex : LE} (h1 : evL cf ex ρ = some (.int i)) (hk : (cond (i == 6) 3 (cond (i == 7) 4 1)) = k) (h2 : stepL cls ρ v k = some ρ') : exL cls iInit theFuel cf (.ev v ex 3 4 1) ρ = some (.next, ρ') := by
  have h0 : exL cls iInit theFuel cf (.ev v ex 3 4 1) ρ = (evL cf ex ρ).bind fun x => x.int?.bind fun i => (stepL cls ρ v (cond (i == 6) 3 (cond (i == 7) 4 1))).map fun ρ' => (.next, ρ') := by kernel_rfl
  rw [h0, h1, Option.bind_some, show (LV.int i).int? = some i from rfl, Option.bind_some, hk, h2]; rfl
theorem ev_k (i : Int) : okM (cond (i == 6) 3 (cond (i == 7) 4 1)) = true := by
  cases i == 6
  · cases i == 7
    · exact ok_step
    · exact ok_nmi
  · exact ok_irq
theorem cmp_same (xs : List Int) : cmpV .ne (.tup (xs.map At.int)) (.tup (xs.map At.int)) = some false := by
  show ((mapO At.int? (xs.map At.int)).bind fun a => (mapO At.int? (xs.map At.int)).bind fun b => eqOp .ne (a == b)) = _
  rw [mapO_int' xs, Option.bind_some, Option.bind_some, beq_self_eq_true]; rfl
theorem ne_no {a b : LE} {l : LSs} {x y : LV} (h1 : evL cf a ρ = some x) (h2 : evL cf b ρ = some y) (h : cmpV .ne x y = some false) : exL cls iInit theFuel cf (.ite (.cmp .ne a b) l .nil) ρ = some (.next, ρ) := by
  rw [exL_ite]
  show ((((evL cf a ρ).bind fun x => (evL cf b ρ).bind fun y => (cmpV .ne x y).map LV.bool)).bind _) = _
  rw [h1, h2, Option.bind_some, Option.bind_some, h]; rfl
theorem told1 : evL cf (.told 6) (LM ns dr q m₁ m₂ G₁ e₁ f₁ G₂ e₂ f₂ s₂ s8 s9 s10 s11) = some (.tup (G₁.l.map At.int)) := by kernel_rfl
theorem told2 : evL cf (.told 7) (LM ns dr q m₁ m₂ G₁ e₁ f₁ G₂ e₂ f₂ s₂ s8 s9 s10 s11) = some (.tup (G₂.l.map At.int)) := by kernel_rfl
theorem told_ne {l : LSs} : exL cls iInit theFuel cf (.ite (.cmp .ne (.told 6) (.told 7)) l .nil) (LM ns dr q m₁ m₂ G e₁ f₁ G e₂ f₂ s₂ s8 s9 s10 s11) = some (.next, LM ns dr q m₁ m₂ G e₁ f₁ G e₂ f₂ s₂ s8 s9 s10 s11) :=
  ne_no told1 told2 (cmp_same _)
theorem far_ok : exL cls iInit theFuel cf (.ite (.cmp .gt (.attr 6 .pc) (.int 65530)) (.cons .brk .nil) .nil) (LM ns dr q m₁ m₂ G₁ e₁ f₁ G₂ e₂ f₂ s₂ s8 s9 s10 s11) = some (cond (decide (G₁.pc > 65530)) LFl.brk LFl.next, LM ns dr q m₁ m₂ G₁ e₁ f₁ G₂ e₂ f₂ s₂ s8 s9 s10 s11) := by
  have h0 : evL cf (.cmp .gt (.attr 6 .pc) (.int 65530)) (LM ns dr q m₁ m₂ G₁ e₁ f₁ G₂ e₂ f₂ s₂ s8 s9 s10 s11) = some (.bool (decide (G₁.pc > 65530))) := by kernel_rfl
  rw [exL_ite, h0, Option.bind_some]
  cases decide (G₁.pc > 65530) <;> kernel_rfl
end
end Mine

end
section
open PySem PySem.W PyProof.Rows
set_option maxRecDepth 100000
set_option maxHeartbeats 0
set_option linter.unusedVariables false
set_option linter.unusedSectionVars false
namespace Mine
theorem for_brk {c : Cls} {im fuel : Nat} {cf : Nat → List LV → Option LV} {ρ : LLoc} {v n : Nat} {e : LE} {b : LSs} (I : LLoc → Prop) (he : evL cf e ρ = some (.int (n : Int))) (hn : n ≤ lim) (h0 : I ρ)
    (step : ∀ (i : Nat) ρ, I ρ → ∃ fl ρ₁ ρ₂, putV ρ v (.int (i : Int)) = some ρ₁ ∧ exLs c im fuel cf b ρ₁ = some (fl, ρ₂) ∧ (fl = .next ∨ fl = .brk) ∧ I ρ₂) :
    ∃ ρ', exL c im fuel cf (.for (.one v) (.rng e) b) ρ = some (.next, ρ') ∧ I ρ' := by
  have go : ∀ (m k : Nat) (ρ : LLoc), I ρ → ∃ ρ', forL (bindTg (.one v)) (fun ρ => exLs c im fuel cf b ρ) ((List.range' k m).map fun i : Nat => LV.int (i : Int)) ρ = some (.next, ρ') ∧ I ρ' := by
    intro m
    induction m with
    | zero => intro k ρ h; exact ⟨ρ, rfl, h⟩
    | succ m ih =>
      intro k ρ h
      obtain ⟨fl, ρ₁, ρ₂, h1, h2, h3, h4⟩ := step k ρ h
      rw [List.range'_succ, List.map_cons]
      rcases h3 with rfl | rfl
      · obtain ⟨ρ', h5, h6⟩ := ih (k + 1) ρ₂ h4
        exact ⟨ρ', (forL_go (ρ₁ := ρ₁) (ρ₂ := ρ₂) h1 h2).trans h5, h6⟩
      · exact ⟨ρ₂, forL_brk (ρ₁ := ρ₁) (ρ₂ := ρ₂) h1 h2, h4⟩
  obtain ⟨ρ', h1, h2⟩ := go n 0 ρ h0
  refine ⟨ρ', ?_, h2⟩
  rw [exL_for]
  have : evSrc cf (.rng e) ρ = some ((List.range' 0 n).map fun i : Nat => LV.int (i : Int)) := by
    show (evL cf e ρ).bind _ = _
    rw [he]
    show (if -(2 ^ 40) ≤ (n : Int) ∧ (n : Int) ≤ lim then _ else _) = _
    rw [if_pos ⟨by omega, by exact Int.ofNat_le.mpr hn⟩, Int.toNat_natCast, List.range_eq_range']
  rw [this, Option.bind_some]
  exact h1
section
variable {cf : Nat → List LV → Option LV} {ns dr m m₁ m₂ : List Int} {q : Option (Int × Int)} {G G₁ G₂ : Rg} {e₁ f₁ e₂ f₂ s₂ : V} {s8 s9 : Option Int} {s10 s11 : Option M}
theorem put8 {i : Int} : putV (LM ns dr q m₁ m₂ G₁ e₁ f₁ G₂ e₂ f₂ s₂ s8 s9 s10 s11) 8 (.int i) = some (LM ns dr q m₁ m₂ G₁ e₁ f₁ G₂ e₂ f₂ s₂ (some i) s9 s10 s11) := by
  have h0 : putV (LM ns dr q m₁ m₂ G₁ e₁ f₁ G₂ e₂ f₂ s₂ s8 s9 s10 s11) 8 (.int i) = cond (true && free (LM ns dr q m₁ m₂ G₁ e₁ f₁ G₂ e₂ f₂ s₂ s8 s9 s10 s11) 8) (some (LM ns dr q m₁ m₂ G₁ e₁ f₁ G₂ e₂ f₂ s₂ (some i) s9 s10 s11)) none := by kernel_rfl
  rw [h0, free_ok (by decide)]; rfl
theorem put9 {i : Int} : putV (LM ns dr q m₁ m₂ G₁ e₁ f₁ G₂ e₂ f₂ s₂ s8 s9 s10 s11) 9 (.int i) = some (LM ns dr q m₁ m₂ G₁ e₁ f₁ G₂ e₂ f₂ s₂ s8 (some i) s10 s11) := by
  have h0 : putV (LM ns dr q m₁ m₂ G₁ e₁ f₁ G₂ e₂ f₂ s₂ s8 s9 s10 s11) 9 (.int i) = cond (true && free (LM ns dr q m₁ m₂ G₁ e₁ f₁ G₂ e₂ f₂ s₂ s8 s9 s10 s11) 9) (some (LM ns dr q m₁ m₂ G₁ e₁ f₁ G₂ e₂ f₂ s₂ s8 (some i) s10 s11)) none := by kernel_rfl
  rw [h0, free_ok (by decide)]; rfl
theorem kind_ok {i : Nat} : ∃ k, evL cf (.ife (.cmp .lt (.var 8) (.len (.var 1))) (.bin .mod (.idx (.var 1) (.var 8)) (.int 8)) (.int 0)) (LM ns dr q m₁ m₂ G₁ e₁ f₁ G₂ e₂ f₂ s₂ (some (i : Int)) s9 s10 s11) = some (.int k) := by
  have h0 : ∀ ρ : LLoc, evL cf (.ife (.cmp .lt (.var 8) (.len (.var 1))) (.bin .mod (.idx (.var 1) (.var 8)) (.int 8)) (.int 0)) ρ = (evL cf (.cmp .lt (.var 8) (.len (.var 1))) ρ).bind fun v => (truthL v).bind fun q => cond q (evL cf (.bin .mod (.idx (.var 1) (.var 8)) (.int 8)) ρ) (evL cf (.int 0) ρ) := fun ρ => by kernel_rfl
  have ht : evL cf (.cmp .lt (.var 8) (.len (.var 1))) (LM ns dr q m₁ m₂ G₁ e₁ f₁ G₂ e₂ f₂ s₂ (some (i : Int)) s9 s10 s11) = some (.bool (decide ((i : Int) < (dr.length : Int)))) := by kernel_rfl
  rw [h0, ht, Option.bind_some, show truthL (.bool (decide ((i : Int) < (dr.length : Int)))) = some (decide ((i : Int) < (dr.length : Int))) from rfl, Option.bind_some]
  by_cases h : i < dr.length
  · rw [decide_eq_true (by omega)]
    have hp : evL cf (.idx (.var 1) (.var 8)) (LM ns dr q m₁ m₂ G₁ e₁ f₁ G₂ e₂ f₂ s₂ (some (i : Int)) s9 s10 s11) = (pick dr (i : Int)).map LV.int := by kernel_rfl
    have hq : pick dr (i : Int) = some dr[i] := by
      unfold pick
      rw [if_pos (Int.natCast_nonneg _), Int.toNat_natCast, List.getElem?_eq_getElem h]
    rw [hq] at hp
    exact ⟨_, mod_i hp int_i (by decide)⟩
  · rw [decide_eq_false (by omega)]
    exact ⟨0, (cond_false _ _).trans int_i⟩
noncomputable def turnB : LSs := .cons (.asg 9 (.ife (.cmp .lt (.var 8) (.len (.var 1))) (.bin .mod (.idx (.var 1) (.var 8)) (.int 8)) (.int 0))) (.cons (.ite (.cmp .gt (.attr 6 .pc) (.int 65530)) (.cons .brk .nil) .nil) (.cons (.ev 6 (.var 9) 3 4 1) (.cons (.mv 10 7) (.cons (.mk 7 5 (.attr 10 .pc)) (.cons (.asgT false [.attr 7 .a, .attr 7 .x, .attr 7 .y, .attr 7 .sp, .attr 7 .p] (.cons (.attr 10 .a) (.cons (.attr 10 .x) (.cons (.attr 10 .y) (.cons (.attr 10 .sp) (.cons (.attr 10 .p) .nil)))))) (.cons (.setAt 7 .cyc (.attr 10 .cyc)) (.cons (.ev 7 (.var 9) 3 4 1) (.cons (.ite (.cmp .ne (.told 6) (.told 7)) (.cons (.ret (.bool false)) .nil) .nil) .nil))))))))
theorem far_go (h : ¬ G₁.pc > 65530) : exL cls iInit theFuel cf (.ite (.cmp .gt (.attr 6 .pc) (.int 65530)) (.cons .brk .nil) .nil) (LM ns dr q m₁ m₂ G₁ e₁ f₁ G₂ e₂ f₂ s₂ s8 s9 s10 s11) = some (.next, LM ns dr q m₁ m₂ G₁ e₁ f₁ G₂ e₂ f₂ s₂ s8 s9 s10 s11) := by
  rw [far_ok, decide_eq_false h]; rfl
theorem far_brk (h : G₁.pc > 65530) : exL cls iInit theFuel cf (.ite (.cmp .gt (.attr 6 .pc) (.int 65530)) (.cons .brk .nil) .nil) (LM ns dr q m₁ m₂ G₁ e₁ f₁ G₂ e₂ f₂ s₂ s8 s9 s10 s11) = some (.brk, LM ns dr q m₁ m₂ G₁ e₁ f₁ G₂ e₂ f₂ s₂ s8 s9 s10 s11) := by
  rw [far_ok, decide_eq_true h]; rfl
theorem asg5 (hm : MemOk m₂) {τ : M} {G' : Rg} {e' f' s' : V} (hτ : τ = mk1 G' e' f' s' []) : exL cls iInit theFuel cf (.asgT false [.attr 7 .a, .attr 7 .x, .attr 7 .y, .attr 7 .sp, .attr 7 .p] (.cons (.attr 10 .a) (.cons (.attr 10 .x) (.cons (.attr 10 .y) (.cons (.attr 10 .sp) (.cons (.attr 10 .p) .nil)))))) (LM ns dr q m₁ m₂ G₁ e₁ f₁ G₂ e₂ f₂ s₂ s8 s9 (some τ) s11) =
    some (.next, LM ns dr q m₁ m₂ G₁ e₁ f₁ { G' with pc := G₂.pc, cyc := G₂.cyc } e₂ f₂ s₂ s8 s9 (some τ) s11) := by
  subst hτ
  have h0 : evLs cf (.cons (.attr 10 .a) (.cons (.attr 10 .x) (.cons (.attr 10 .y) (.cons (.attr 10 .sp) (.cons (.attr 10 .p) .nil))))) (LM ns dr q m₁ m₂ G₁ e₁ f₁ G₂ e₂ f₂ s₂ s8 s9 (some (mk1 G' e' f' s' [])) s11) = some [.int G'.a, .int G'.x, .int G'.y, .int G'.sp, .int G'.p] := by kernel_rfl
  rw [exL_asgT, h0, Option.bind_some]
  show (storeTs cf [LV.int G'.a, LV.int G'.x, LV.int G'.y, LV.int G'.sp, LV.int G'.p] [.attr 7 .a, .attr 7 .x, .attr 7 .y, .attr 7 .sp, .attr 7 .p] _).map _ = _
  rw [st_attr (set_two hm (.inl rfl)), st_attr (set_two hm (.inr (.inl rfl))), st_attr (set_two hm (.inr (.inr (.inl rfl)))), st_attr (set_two hm (.inr (.inr (.inr (.inl rfl))))), st_attr (set_two hm (.inr (.inr (.inr (.inr (.inl rfl))))))]
  rfl
theorem asg6 (hm : MemOk m₂) {τ : M} {G' : Rg} {e' f' s' : V} (hτ : τ = mk1 G' e' f' s' []) : exL cls iInit theFuel cf (.setAt 7 .cyc (.attr 10 .cyc)) (LM ns dr q m₁ m₂ G₁ e₁ f₁ G₂ e₂ f₂ s₂ s8 s9 (some τ) s11) = some (.next, LM ns dr q m₁ m₂ G₁ e₁ f₁ { G₂ with cyc := G'.cyc } e₂ f₂ s₂ s8 s9 (some τ) s11) := by
  subst hτ
  have h0 : ∀ ρ : LLoc, exL cls iInit theFuel cf (.setAt 7 .cyc (.attr 10 .cyc)) ρ = (evL cf (.attr 10 .cyc) ρ).bind fun u => u.int?.bind fun n => (setA ρ 7 .cyc n).map fun ρ' => (.next, ρ') := fun ρ => by kernel_rfl
  have h1 : evL cf (.attr 10 .cyc) (LM ns dr q m₁ m₂ G₁ e₁ f₁ G₂ e₂ f₂ s₂ s8 s9 (some (mk1 G' e' f' s' [])) s11) = some (.int G'.cyc) := by kernel_rfl
  rw [h0, h1, Option.bind_some, show (LV.int G'.cyc).int? = some G'.cyc from rfl, Option.bind_some, set_two hm (.inr (.inr (.inr (.inr (.inr rfl)))))]
  rfl
noncomputable def Inv (ns dr : List Int) (q : Option (Int × Int)) (ρ : LLoc) : Prop := ∃ m G e₁ f₁ e₂ f₂ s₂ s8 s9 s10, Bd G m ∧ ρ = LM ns dr q m m G e₁ f₁ G e₂ f₂ s₂ s8 s9 s10 none
theorem turn (i : Nat) (ρ : LLoc) (h : Inv ns dr q ρ) : ∃ fl ρ₁ ρ₂, putV ρ 8 (.int (i : Int)) = some ρ₁ ∧ exLs cls iInit theFuel cf turnB ρ₁ = some (fl, ρ₂) ∧ (fl = .next ∨ fl = .brk) ∧ Inv ns dr q ρ₂ := by
  obtain ⟨m, G, e₁, f₁, e₂, f₂, s₂, s8, s9, s10, B, rfl⟩ := h
  obtain ⟨k, hk⟩ := kind_ok (cf := cf) (ns := ns) (dr := dr) (q := q) (m₁ := m) (m₂ := m) (G₁ := G) (e₁ := e₁) (f₁ := f₁) (G₂ := G) (e₂ := e₂) (f₂ := f₂) (s₂ := s₂) (s9 := s9) (s10 := s10) (s11 := none) (i := i)
  by_cases far : G.pc > 65530
  · exact ⟨.brk, _, _, put8, (exLs_go (asg_of hk put9)).trans (exLs_brk (far_brk far)), .inr rfl, m, G, e₁, f₁, e₂, f₂, s₂, _, _, _, B, rfl⟩
  · obtain ⟨G', m', v, w, a1, b1, a2, b2, B', c1, c2⟩ := both (ev_k k) (e := e₁) (f := f₁) (e' := .int 0) (f' := .bool false) (s₁ := .int 512) (s₂ := .int G.pc) B (by omega)
    refine ⟨.next, _, _, put8, (exLs_go (asg_of hk put9)).trans ((exLs_go (far_go far)).trans ((exLs_go (ev_ok (i := k) (by kernel_rfl) rfl (step1 c1 B'.m))).trans ((exLs_go mv_ok).trans ((exLs_go (mk2_ok (e' := .none) (f' := .none) (s' := .none) B.m rfl)).trans ((exLs_go (asg5 B.m rfl)).trans ((exLs_go (asg6 B.m rfl)).trans ((exLs_go (ev_ok (i := k) (by kernel_rfl) rfl (step2 c2 B'.m))).trans ((exLs_go told_ne).trans rfl)))))))), .inl rfl, m', G', a1, b1, a2, b2, _, _, _, _, B', rfl⟩
end
end Mine

end
section
open PySem PySem.W PyProof.Rows
set_option maxRecDepth 100000
set_option maxHeartbeats 0
set_option linter.unusedVariables false
set_option linter.unusedSectionVars false
namespace Mine
theorem m_ret {c : Cls} {d m : Nat} {md : MethD} {args : List V} {σ σ' : M} {e : E} {v : V} (hm : c.P[m]? = some md) (hn : args.length + 1 = md.np) (hb : md.body = .cons (.ret e) .nil) (he : evE c (callM c d) ((some V.self :: args.map some) ++ List.replicate (md.vars.length - md.np) none) e σ = some (v, σ')) : callM c (d + 1) m args σ = some (v, σ') := by
  show (c.P[m]?).bind _ = _
  rw [hm, Option.bind_some, if_pos hn, hb]
  show ((((evE c (callM c d) _ e σ).map fun r => (Fl.ret r.1, _, r.2)).bind _).map _) = _
  rw [he]; rfl
section
variable {v1 v2 v3 v4 v5 v6 v7 v8 v9 v10 v11 v12 v13 v14 : V} {hn : Bool} {m : List Int} {d : Nat} {a x y : Int}
theorem byteAt (h : at? m a = some x) : callM cls (d + 1) 5 [.int a] ⟨v1, v2, v3, v4, v5, v6, v7, v8, v9, v10, v11, v12, v13, v14, true, hn, m⟩ = some (.int x, ⟨v1, v2, v3, v4, v5, v6, v7, v8, v9, v10, v11, v12, v13, v14, true, hn, m⟩) := by
  refine m_ret (md := md_ByteAt) (e := .mem (.var 1)) rfl rfl rfl ?_
  show (at? m a).map (fun x => (V.int x, _)) = _
  rw [h]; rfl
theorem wordAt (h1 : at? m a = some x) (h2 : at? m (a + 1) = some y) {z : Int} (hz : BOp.shl.ev y 8 = some z) : callM cls (d + 2) 6 [.int a] ⟨v1, v2, v3, v4, v5, v6, v7, v8, v9, v10, v11, v12, v13, v14, true, hn, m⟩ = some (.int (x + z), ⟨v1, v2, v3, v4, v5, v6, v7, v8, v9, v10, v11, v12, v13, v14, true, hn, m⟩) := by
  refine m_ret (md := md_WordAt) (e := .bin .add (.call1 5 (.var 1)) (.bin .shl (.call1 5 (.bin .add (.var 1) (.int 1))) (.cst 11))) rfl rfl rfl ?_
  show onI (callM cls (d + 1) 5 [.int a] _) (fun i σ₁ => onI (onI (callM cls (d + 1) 5 [.int (a + 1)] σ₁) fun j σ₂ => (BOp.shl.ev j 8).map fun r => (V.int r, σ₂)) fun j σ₂ => (BOp.add.ev i j).map fun r => (V.int r, σ₂)) = _
  rw [byteAt h1]
  show onI (onI (callM cls (d + 1) 5 [.int (a + 1)] _) fun j σ₂ => (BOp.shl.ev j 8).map fun r => (V.int r, σ₂)) (fun j σ₂ => (BOp.add.ev x j).map fun r => (V.int r, σ₂)) = _
  rw [byteAt h2]
  show onI ((BOp.shl.ev y 8).map fun r => (V.int r, _)) (fun j σ₂ => (BOp.add.ev x j).map fun r => (V.int r, σ₂)) = _
  rw [hz]; rfl
theorem begun_ok (h1 : at? m 65532 = some x) (h2 : at? m 65533 = some y) {z : Int} (hz : BOp.shl.ev y 8 = some z) : callM cls deep iInit [.memr, .none] { unsetM with mem := m } = some (.none, mk1 (new0 (x + z)) (.int 0) (.bool false) .none m) := by
  have h0 : callM cls deep iInit [.memr, .none] { unsetM with mem := m } = (((callM cls 11 2 [] ⟨.unset, .unset, .unset, .unset, .unset, .unset, .int 0, .int 0, .bool false, .none, .int 255, .int 65535, .int 65280, .int 256, true, true, m⟩).map fun r => (Fl.next, ([some .self, some .memr, some .none] : Loc), r.2)).bind fun q => match q.1 with | .next => exSs cls (callM cls 11) .nil q.2.1 q.2.2 | .ret v => some (.ret v, q.2)).map fun r => (r.1.out, r.2.2) := by kernel_rfl
  have h3 : callM cls 11 2 [] ⟨.unset, .unset, .unset, .unset, .unset, .unset, .int 0, .int 0, .bool false, .none, .int 255, .int 65535, .int 65280, .int 256, true, true, m⟩ =
      ((((((callM cls 10 6 [.int 65532] ⟨.none, .unset, .unset, .unset, .unset, .unset, .int 0, .int 0, .bool false, .none, .int 255, .int 65535, .int 65280, .int 256, true, true, m⟩).bind fun r => r.1.flat?.bind fun x => (r.2.set .pc x).map fun σ₂ => (Fl.next, ([some .self] : Loc), σ₂)).bind fun q => match q.1 with | .next => exSs cls (callM cls 10) .nil q.2.1 q.2.2 | .ret v => some (.ret v, q.2)).bind fun q => match q.1 with | .next => exSs cls (callM cls 10) (.cons (.asgF .sp (.fld .bm)) (.cons (.asgF .a (.int 0)) (.cons (.asgF .x (.int 0)) (.cons (.asgF .y (.int 0)) (.cons (.asgF .p (.bin .or (.cst 6) (.cst 5))) (.cons (.asgF .cyc (.int 0)) .nil)))))) q.2.1 q.2.2 | .ret v => some (.ret v, q.2))).map fun r => (r.1.out, r.2.2)) := by kernel_rfl
  rw [h0, h3, wordAt h1 h2 hz]
  kernel_rfl
theorem reset_ok {G : Rg} {e f : V} : callM cls deep i_reset [] (mk1 G e f (.int 512) m) = some (.none, mk1 (new0 512) e f (.int 512) m) := by kernel_rfl
end
end Mine

end
section
open PySem PySem.W PyProof.Rows
set_option maxRecDepth 100000
set_option maxHeartbeats 0
set_option linter.unusedVariables false
set_option linter.unusedSectionVars false
namespace Mine
section
variable {cf : Nat → List LV → Option LV} {ns dr m : List Int} {q : Option (Int × Int)} {G G₁ G₂ : Rg} {e₁ f₁ e₂ f₂ s₂ : V} {s8 s9 : Option Int} {s10 s11 : Option M}
theorem mem_at (h : MemOk m) {k : Nat} (hk : k < 65536) : ∃ x, at? m (k : Int) = some x ∧ pick m (k : Int) = some x ∧ 0 ≤ x ∧ x ≤ 255 := by
  have hl : k < m.length := by rw [h.1]; exact hk
  have e : m[k]? = some m[k] := List.getElem?_eq_getElem hl
  have b := h.2 _ (List.getElem_mem hl)
  refine ⟨m[k], ?_, ?_, b.1, b.2⟩
  · show (if 0 ≤ (k : Int) then m[(k : Int).toNat]? else none) = _
    rw [if_pos (Int.natCast_nonneg _), Int.toNat_natCast, e]
  · unfold pick
    rw [if_pos (Int.natCast_nonneg _), Int.toNat_natCast, e]
theorem shl_8 {y : Int} (h : 0 ≤ y ∧ y ≤ 255) : BOp.shl.ev y 8 = some (256 * y) := by
  show (if 0 ≤ (8 : Int) ∧ (8 : Int) ≤ 64 ∧ y.natAbs < 2 ^ 64 then some (y * 2 ^ 8) else Option.none) = _
  rw [if_pos ⟨by decide, by decide, by omega⟩, Int.mul_comm]; rfl
theorem own2 {m₁ m₂ : List Int} : evL cf (.own 2) (LM ns dr q m₁ m₂ G₁ e₁ f₁ G₂ e₂ f₂ s₂ s8 s9 s10 s11) = some (.ints m₁) := by kernel_rfl
theorem own5 {m₁ m₂ : List Int} : evL cf (.own 5) (LM ns dr q m₁ m₂ G₁ e₁ f₁ G₂ e₂ f₂ s₂ s8 s9 s10 s11) = some (.ints m₂) := by kernel_rfl
theorem cmp_ints (xs : List Int) : cmpV .ne (.ints xs) (.ints xs) = some false := by
  show some (!(xs == xs)) = _
  rw [beq_self_eq_true]; rfl
theorem h8 {l : LSs} : exL cls iInit theFuel cf (.ite (.cmp .ne (.own 2) (.own 5)) l .nil) (LM ns dr q m m G₁ e₁ f₁ G₂ e₂ f₂ s₂ s8 s9 s10 s11) = some (.next, LM ns dr q m m G₁ e₁ f₁ G₂ e₂ f₂ s₂ s8 s9 s10 s11) :=
  ne_no own2 own5 (cmp_ints m)
theorem h9 {x y : Int} (hm : MemOk m) (h1 : at? m 65532 = some x) (h2 : at? m 65533 = some y) (hy : 0 ≤ y ∧ y ≤ 255) : exL cls iInit theFuel cf s_law_9 (LM ns dr q m m G₁ e₁ f₁ G₂ e₂ f₂ s₂ s8 s9 s10 s11) =
    some (.next, LM ns dr q m m G₁ e₁ f₁ G₂ e₂ f₂ s₂ s8 s9 s10 (some (mk1 (new0 (x + 256 * y)) (.int 0) (.bool false) .none []))) :=
  mk_ok (pc := .at .none) (p := .none) (xs := m) (by kernel_rfl) (by kernel_rfl) (by kernel_rfl) (begun_ok h1 h2 (shl_8 hy)) (free_ok (by decide)) (by kernel_rfl) (ble_mem hm) (by kernel_rfl)
theorem told11 {G : Rg} {e f s : V} : evL cf (.told 11) (LM ns dr q m m G₁ e₁ f₁ G₂ e₂ f₂ s₂ s8 s9 s10 (some (mk1 G e f s []))) = some (.tup (G.l.map At.int)) := by kernel_rfl
theorem idx5 {i x : Int} (h : pick m i = some x) : evL cf (.idx (.own 5) (.int i)) (LM ns dr q m m G₁ e₁ f₁ G₂ e₂ f₂ s₂ s8 s9 s10 s11) = some (.int x) := by
  have h0 : evL cf (.idx (.own 5) (.int i)) (LM ns dr q m m G₁ e₁ f₁ G₂ e₂ f₂ s₂ s8 s9 s10 s11) = (pick m i).map LV.int := by kernel_rfl
  rw [h0, h]; rfl
theorem evLs_c {e : LE} {r : LEs} {x : LV} {xs : List LV} {ρ : LLoc} (h1 : evL cf e ρ = some x) (h2 : evLs cf r ρ = some xs) : evLs cf (.cons e r) ρ = some (x :: xs) := by
  have h0 : evLs cf (.cons e r) ρ = (evL cf e ρ).bind fun v => (evLs cf r ρ).map fun vs => v :: vs := by kernel_rfl
  rw [h0, h1, Option.bind_some, h2]; rfl
theorem h10 {x y : Int} (h1 : pick m 65532 = some x) (h2 : pick m 65533 = some y) {e f s : V} : exL cls iInit theFuel cf s_law_10 (LM ns dr q m m G₁ e₁ f₁ G₂ e₂ f₂ s₂ s8 s9 s10 (some (mk1 (new0 (x + 256 * y)) e f s []))) =
    some (.next, LM ns dr q m m G₁ e₁ f₁ G₂ e₂ f₂ s₂ s8 s9 s10 (some (mk1 (new0 (x + 256 * y)) e f s []))) := by
  refine ne_no told11 (ev_tup (xs := (new0 (x + 256 * y)).l) ?_ (show 7 ≤ lim by decide)) (cmp_same _)
  exact evLs_c (add_i (idx5 h1) (mul_r int_i (idx5 h2) (.inl (by decide)))) (by kernel_rfl)
theorem h11 {k : Nat} (hm : MemOk m) : exL cls iInit theFuel cf s_law_11 (LM ns dr q m m G₁ e₁ f₁ G₂ e₂ f₂ s₂ s8 s9 s10 s11) = some (.next, LM ns dr q m m (new0 512) e₁ f₁ G₂ e₂ f₂ s₂ s8 s9 s10 s11) := by
  show (stepL cls (LM ns dr q m m G₁ e₁ f₁ G₂ e₂ f₂ s₂ s8 s9 s10 s11) 6 i_reset).map (fun ρ' => (LFl.next, ρ')) = _
  rw [step1 reset_ok hm]; rfl
theorem h12 : exL cls iInit theFuel cf s_law_12 (LM ns dr q m m (new0 512) e₁ f₁ G₂ e₂ f₂ s₂ s8 s9 s10 s11) = some (.next, LM ns dr q m m (new0 512) e₁ f₁ G₂ e₂ f₂ s₂ s8 s9 s10 s11) := by
  have t1 : evL cf (.cmp .ne (.told 6) (.tup (.cons (.int 512) (.cons (.int 0) (.cons (.int 0) (.cons (.int 0) (.cons (.int 255) (.cons (.int 48) (.cons (.int 0) .nil))))))))) (LM ns dr q m m (new0 512) e₁ f₁ G₂ e₂ f₂ s₂ s8 s9 s10 s11) = some (.bool false) := by kernel_rfl
  have t2 : evL cf (.cmp .ne (.own 2) (.own 5)) (LM ns dr q m m (new0 512) e₁ f₁ G₂ e₂ f₂ s₂ s8 s9 s10 s11) = some (.bool false) := by
    show ((evL cf (.own 2) _).bind fun x => (evL cf (.own 5) _).bind fun y => (cmpV .ne x y).map LV.bool) = _
    rw [own2, Option.bind_some, own5, Option.bind_some, cmp_ints]; rfl
  have t3 : evL cf (.or (.cmp .ne (.told 6) (.tup (.cons (.int 512) (.cons (.int 0) (.cons (.int 0) (.cons (.int 0) (.cons (.int 255) (.cons (.int 48) (.cons (.int 0) .nil))))))))) (.cmp .ne (.own 2) (.own 5))) (LM ns dr q m m (new0 512) e₁ f₁ G₂ e₂ f₂ s₂ s8 s9 s10 s11) = some (.bool false) := by
    show ((evL cf (.cmp .ne (.told 6) _) _).bind fun x => x.bool?.bind fun q => cond q (some (.bool true)) (evL cf (.cmp .ne (.own 2) (.own 5)) _)) = _
    rw [t1, Option.bind_some]
    exact t2
  rw [show s_law_12 = .ite _ _ _ from rfl, exL_ite, t3]; rfl
theorem h13 (hm : MemOk m) : exL cls iInit theFuel cf s_law_13 (LM ns dr q m m G₁ e₁ f₁ G₂ e₂ f₂ s₂ s8 s9 s10 s11) = some (.next, LM ns dr q m m G₁ e₁ f₁ (new0 512) (.int 0) (.bool false) (.int 512) s8 s9 s10 s11) :=
  mk_ok (pc := .int 512) (p := .int 512) (xs := m) (by kernel_rfl) (by kernel_rfl) (by kernel_rfl) made (free_ok (by decide)) (by kernel_rfl) (ble_mem hm) (by kernel_rfl)
noncomputable def turnC : LSs := .cons (.ite (.cmp .gt (.attr 6 .pc) (.int 65530)) (.cons .brk .nil) .nil) (.cons (.step 6 1) (.cons (.step 7 1) (.cons (.ite (.cmp .ne (.told 6) (.told 7)) (.cons (.ret (.bool false)) .nil) .nil) .nil)))
noncomputable def Inv2 (ns dr : List Int) (q : Option (Int × Int)) (ρ : LLoc) : Prop := ∃ m G e₁ f₁ e₂ f₂ s₂ s8 s9 s10 s11, Bd G m ∧ ρ = LM ns dr q m m G e₁ f₁ G e₂ f₂ s₂ s8 s9 s10 s11
theorem st_of {v k : Nat} {ρ ρ' : LLoc} (h : stepL cls ρ v k = some ρ') : exL cls iInit theFuel cf (.step v k) ρ = some (.next, ρ') := by
  show (stepL cls ρ v k).map (fun ρ' => (LFl.next, ρ')) = _
  rw [h]; rfl
theorem turn2 (i : Nat) (ρ : LLoc) (h : Inv2 ns dr q ρ) : ∃ fl ρ₁ ρ₂, putV ρ 8 (.int (i : Int)) = some ρ₁ ∧ exLs cls iInit theFuel cf turnC ρ₁ = some (fl, ρ₂) ∧ (fl = .next ∨ fl = .brk) ∧ Inv2 ns dr q ρ₂ := by
  obtain ⟨m, G, e₁, f₁, e₂, f₂, s₂, s8, s9, s10, s11, B, rfl⟩ := h
  by_cases far : G.pc > 65530
  · exact ⟨.brk, _, _, put8, exLs_brk (far_brk far), .inr rfl, m, G, e₁, f₁, e₂, f₂, s₂, _, _, _, _, B, rfl⟩
  · obtain ⟨G', m', v, w, a1, b1, a2, b2, B', c1, c2⟩ := both (k := 1) ok_step (e := e₁) (f := f₁) (e' := e₂) (f' := f₂) (s₁ := .int 512) (s₂ := s₂) B (by omega)
    exact ⟨.next, _, _, put8, (exLs_go (far_go far)).trans ((exLs_go (st_of (step1 c1 B'.m))).trans ((exLs_go (st_of (step2 c2 B'.m))).trans ((exLs_go told_ne).trans rfl))), .inl rfl, m', G', a1, b1, a2, b2, _, _, _, _, _, B', rfl⟩
theorem bd_new (hm : MemOk m) : Bd (new0 512) m := ⟨by decide, by decide, by decide, by decide, by decide, by decide, hm⟩
theorem tail {ρ : LLoc} (h : Inv ns dr q ρ) : ∃ ρ', exLs cls iInit theFuel cf (.cons s_law_7 (.cons s_law_8 (.cons s_law_9 (.cons s_law_10 (.cons s_law_11 (.cons s_law_12 (.cons s_law_13 (.cons s_law_14 (.cons s_law_15 .nil))))))))) ρ = some (.ret (.bool true), ρ') := by
  obtain ⟨ρ₇, e7, m, G, e₁, f₁, e₂, f₂, s₂, s8, s9, s10, B, rfl⟩ := for_brk (c := cls) (im := iInit) (fuel := theFuel) (cf := cf) (v := 8) (n := 40) (e := .int 40) (b := turnB) (Inv ns dr q) int_i (by decide) h fun i ρ => turn i ρ
  obtain ⟨x, x1, x2, x3, x4⟩ := mem_at B.m (k := 65532) (by decide)
  obtain ⟨y, y1, y2, y3, y4⟩ := mem_at B.m (k := 65533) (by decide)
  obtain ⟨ρ₁₄, e14, m', G', e₁', f₁', e₂', f₂', s₂', s8', s9', s10', s11', B', rfl⟩ := for_brk (c := cls) (im := iInit) (fuel := theFuel) (cf := cf) (v := 8) (n := 8) (e := .int 8) (b := turnC) (Inv2 ns dr q) int_i (by decide)
    (ρ := LM ns dr q m m (new0 512) e₁ f₁ (new0 512) (.int 0) (.bool false) (.int 512) s8 s9 s10 (some (mk1 (new0 (x + 256 * y)) (.int 0) (.bool false) .none [])))
    ⟨m, _, _, _, _, _, _, _, _, _, _, bd_new B.m, rfl⟩ fun i ρ => turn2 i ρ
  refine ⟨LM ns dr q m' m' G' e₁' f₁' G' e₂' f₂' s₂' s8' s9' s10' s11', ?_⟩
  refine (exLs_go e7).trans ((exLs_go h8).trans ((exLs_go (h9 B.m x1 y1 ⟨y3, y4⟩)).trans ((exLs_go (h10 x2 y2)).trans ((exLs_go (h11 (k := 0) B.m)).trans ((exLs_go h12).trans ((exLs_go (h13 B.m)).trans ((exLs_go e14).trans (exLs_ret ?_))))))))
  have t : evL cf (.cmp .eq (.own 2) (.own 5)) (LM ns dr q m' m' G' e₁' f₁' G' e₂' f₂' s₂' s8' s9' s10' s11') = some (.bool true) := by
    show ((evL cf (.own 2) _).bind fun x => (evL cf (.own 5) _).bind fun y => (cmpV .eq x y).map LV.bool) = _
    rw [own2, Option.bind_some, own5, Option.bind_some]
    show (some (m' == m')).map LV.bool = _
    rw [beq_self_eq_true]; rfl
  have e : ∀ ρ : LLoc, exL cls iInit theFuel cf s_law_15 ρ = (evL cf (.cmp .eq (.own 2) (.own 5)) ρ).map fun x => (LFl.ret x, ρ) := fun ρ => by kernel_rfl
  rw [e, t]; rfl
end
end Mine

end
section
open PySem PySem.W PyProof.Rows
set_option maxRecDepth 100000
set_option maxHeartbeats 0
set_option linter.unusedVariables false
set_option linter.unusedSectionVars false
namespace Mine
noncomputable def F0 (ns : List Int) (v1 v2 : Option LV) (q : Option (Int × Int)) (v5 v6 : Option LV) : LLoc := [some (.ints ns), v1, v2, q.map fun p => LV.int p.1, q.map fun p => LV.int p.2, v5, v6, none, none, none, none, none]
section
variable {cf : Nat → List LV → Option LV} {ρ ρ' : LLoc} {ns dr m : List Int} {q : Option (Int × Int)}
theorem mapO_of {α β γ : Type} {f : α → Option β} {u : γ → α} {w : γ → β} : ∀ (l : List γ), (∀ x ∈ l, f (u x) = some (w x)) → mapO f (l.map u) = some (l.map w)
  | [], _ => rfl
  | x :: l, h => by
    show (f (u x)).bind (fun b => (mapO f (l.map u)).map fun r => b :: r) = _
    rw [h x (List.mem_cons_self ..), Option.bind_some, mapO_of l fun y hy => h y (List.mem_cons_of_mem _ hy)]; rfl
theorem cut_le (xs : List Int) (k : Nat) : (cutI xs none (some (k : Int))).length ≤ k := by
  have e : cutI xs none (some (k : Int)) = xs.take (clipAt xs.length k) := by
    show ((xs.drop 0).take (clipAt xs.length k - 0)) = _
    rw [List.drop_zero, Nat.sub_zero]
  rw [e, List.length_take]
  have : clipAt xs.length (k : Int) ≤ k := by
    have := clipAt_cast xs.length (k : Int)
    omega
  omega
theorem h0 : exL cls iInit theFuel cf s_law_0 (F0 ns none none none none none) = some (.next, F0 ns (some (.ints (cutI ns none (some 40)))) none none none none) := by kernel_rfl
noncomputable def L0 : List Int := (List.range 256).map fun i : Nat => (83 * (i : Int) + 7) % 256
theorem L0_len : L0.length = 256 := by unfold L0; rw [List.length_map, List.length_range]
noncomputable def M0 : List Int := repeatL L0 256
theorem M0_ok : MemOk M0 := by
  refine ⟨?_, fun x hx => ?_⟩
  · show ((List.replicate 256 L0).flatten).length = 65536
    rw [List.length_flatten, List.map_replicate, L0_len, List.sum_replicate_nat]
  · obtain ⟨l, h1, h2⟩ := List.mem_flatten.mp hx
    rw [(List.mem_replicate.mp h1).2] at h2
    obtain ⟨i, _, rfl⟩ := List.mem_map.mp h2
    show 0 ≤ (83 * (i : Int) + 7) % 256 ∧ (83 * (i : Int) + 7) % 256 ≤ 255
    omega
theorem newl_of {v : Nat} {e : LE} {xs : List Int} (h1 : evL cf e ρ = some (.ints xs)) (h2 : free ρ v = true) (h3 : setL ρ v (.own xs) = some ρ') : exL cls iInit theFuel cf (.newl v e) ρ = some (.next, ρ') := by
  have h0 : exL cls iInit theFuel cf (.newl v e) ρ = (evL cf e ρ).bind fun x => x.ints?.bind fun xs => cond (free ρ v) ((setL ρ v (.own xs)).map fun ρ' => (.next, ρ')) Option.none := by kernel_rfl
  rw [h0, h1, Option.bind_some, show (LV.ints xs).ints? = some xs from rfl, Option.bind_some, h2, h3]; rfl
theorem h1 : exL cls iInit theFuel cf s_law_1 (F0 ns (some (.ints dr)) none none none none) = some (.next, F0 ns (some (.ints dr)) (some (.own M0)) none none none) := by
  refine newl_of (xs := M0) ?_ (by kernel_rfl) (by kernel_rfl)
  have hs : evSrc cf (.rng (.int 256)) (F0 ns (some (.ints dr)) none none none none) = some (((List.range 256).map fun i : Nat => (i : Int)).map LV.int) := by
    rw [List.map_map]; kernel_rfl
  have ha : mapO asInt (((List.range 256).map fun i : Nat => (i : Int)).map LV.int) = some ((List.range 256).map fun i : Nat => (i : Int)) := by
    rw [List.map_map]; exact mapO_of _ fun i _ => rfl
  have hc : evL cf (.comp (.bin .mod (.bin .add (.bin .mul (.int 83) (.var 12)) (.int 7)) (.int 256)) [] (.rng (.int 256))) (F0 ns (some (.ints dr)) none none none none) = some (.ints L0) := by
    rw [evL_comp, hs, Option.bind_some, ha, Option.bind_some, List.map_map, mapO_of (w := fun i : Nat => (83 * (i : Int) + 7) % 256) (List.range 256) fun i _ => ?_]
    · rfl
    · have h12 : evL cf (.var 12) (maskL [] (F0 ns (some (.ints dr)) none none none none) ++ [some (.int (i : Int))]) = some (.int (i : Int)) := by kernel_rfl
      show (evL cf _ (maskL [] (F0 ns (some (.ints dr)) none none none none) ++ [some (.int (i : Int))])).bind LV.int? = _
      rw [mod_i (add_i (mul_r int_i h12 (.inl (by decide))) int_i) int_i (by decide)]; rfl
  rw [evL_bin, hc, Option.bind_some, int_i, Option.bind_some]
  show orO (if LOp.mul = .mul ∧ (0 : Int) ≤ 256 ∧ (256 : Int) ≤ lim ∧ L0.length * (256 : Int).toNat ≤ lim then some (LV.ints (repeatL L0 (256 : Int).toNat)) else Option.none) ((LV.ints L0).rowsE?.bind fun xs => (LV.int 256).rowsE?.bind fun ys => if LOp.mul = .add ∧ (xs ++ ys).length ≤ lim then some (.rows (xs ++ ys)) else Option.none) = _
  rw [if_pos ⟨rfl, by decide, by decide, by rw [L0_len]; decide⟩]
  rfl
theorem put_sl (h : MemOk m) {ys : List Int} (hy : ys.length = 6) (hb : ∀ x ∈ ys, 0 ≤ x ∧ x ≤ 255) : MemOk (putSl m (some 65530) (some 65536) ys) := by
  have c1 : clipAt 65536 65530 = 65530 := by decide
  have c2 : clipAt 65536 65536 = 65536 := by decide
  have e : putSl m (some 65530) (some 65536) ys = m.take 65530 ++ ys ++ m.drop 65536 := by
    show m.take (clipAt m.length 65530) ++ ys ++ m.drop (max (clipAt m.length 65530) (clipAt m.length 65536)) = _
    rw [h.1, c1, c2]
    rfl
  rw [e]
  refine ⟨?_, fun x hx => ?_⟩
  · rw [List.length_append, List.length_append, List.length_take, List.length_drop, h.1, hy]; rfl
  · rcases List.mem_append.mp hx with hx | hx
    · rcases List.mem_append.mp hx with hx | hx
      · exact h.2 x (List.mem_of_mem_take hx)
      · exact hb x hx
    · exact h.2 x (List.mem_of_mem_drop hx)
theorem h2 (hm : MemOk m) : ∃ m', MemOk m' ∧ exL cls iInit theFuel cf s_law_2 (F0 ns (some (.ints dr)) (some (.own m)) none none none) = some (.next, F0 ns (some (.ints dr)) (some (.own m')) none none none) := by
  refine ⟨putSl m (some 65530) (some 65536) [16, 64, 0, 3, 0, 80], put_sl hm rfl (by decide), ?_⟩
  have e : exL cls iInit theFuel cf s_law_2 (F0 ns (some (.ints dr)) (some (.own m)) none none none) = cond (Nat.ble (m.length + 6) lim) (some (.next, F0 ns (some (.ints dr)) (some (.own (putSl m (some 65530) (some 65536) [16, 64, 0, 3, 0, 80]))) none none none)) none := by kernel_rfl
  rw [e, hm.1]
  rfl
noncomputable def layB : LSs := .cons (.sub 2 (.bin .add (.int 512) (.var 3)) (.bin .mod (.bin .add (.bin .fdiv (.var 4) (.int 8)) (.bin .mul (.int 37) (.var 3))) (.int 256))) .nil
theorem lay1 {k : Nat} {x : Int} (hk : k < 40) (hm : MemOk m) : ∃ m', MemOk m' ∧ exLs cls iInit theFuel cf layB (F0 ns (some (.ints dr)) (some (.own m)) (some ((k : Int), x)) none none) = some (.next, F0 ns (some (.ints dr)) (some (.own m')) (some ((k : Int), x)) none none) := by
  have h3 : evL cf (.var 3) (F0 ns (some (.ints dr)) (some (.own m)) (some ((k : Int), x)) none none) = some (.int k) := by kernel_rfl
  have h4 : evL cf (.var 4) (F0 ns (some (.ints dr)) (some (.own m)) (some ((k : Int), x)) none none) = some (.int x) := by kernel_rfl
  have hv := mod_i (add_i (div_i h4 (int_i (i := 8)) (by decide) (by decide)) (mul_r (int_i (i := 37)) h3 (.inl (by decide)))) (int_i (i := 256)) (by decide)
  have hi := add_i (int_i (i := 512)) h3
  obtain ⟨m', p, hm'⟩ := put_ok hm (k := 512 + (k : Int)) (x := (x / 8 + 37 * (k : Int)) % 256) (by omega) (by omega)
  refine ⟨m', hm', (exLs_go ?_).trans rfl⟩
  have e : putSub (F0 ns (some (.ints dr)) (some (.own m)) (some ((k : Int), x)) none none) 2 (512 + (k : Int)) ((x / 8 + 37 * (k : Int)) % 256) = (putAt m (512 + (k : Int)) ((x / 8 + 37 * (k : Int)) % 256)).bind fun ys => some (F0 ns (some (.ints dr)) (some (.own ys)) (some ((k : Int), x)) none none) := by kernel_rfl
  rw [exL_sub, hv, Option.bind_some, show ∀ n, (LV.int n).int? = some n from fun _ => rfl, Option.bind_some, hi, Option.bind_some, show ∀ n, (LV.int n).int? = some n from fun _ => rfl, Option.bind_some, e, p]
  rfl
theorem lay : ∀ (l : List Int) (k : Nat) (m : List Int) (q : Option (Int × Int)), k + l.length ≤ 40 → MemOk m → ∃ m' q', MemOk m' ∧ forL (bindTg (.many [3, 4])) (fun ρ => exLs cls iInit theFuel cf layB ρ) (enumItems k l) (F0 ns (some (.ints dr)) (some (.own m)) q none none) = some (.next, F0 ns (some (.ints dr)) (some (.own m')) q' none none)
  | [], k, m, q, _, hm => ⟨m, q, hm, rfl⟩
  | x :: l, k, m, q, hk, hm => by
    rw [List.length_cons] at hk
    obtain ⟨m₁, hm₁, e₁⟩ := lay1 (cf := cf) (ns := ns) (dr := dr) (k := k) (x := x) (by omega) hm
    obtain ⟨m', q', hm', e'⟩ := lay l (k + 1) m₁ (some ((k : Int), x)) (by omega) hm₁
    refine ⟨m', q', hm', (forL_go (ρ₁ := F0 ns (some (.ints dr)) (some (.own m)) (some ((k : Int), x)) none none) ?_ e₁).trans e'⟩
    cases q <;> kernel_rfl
theorem h3 (hm : MemOk m) (hd : dr.length ≤ 40) : ∃ m' q', MemOk m' ∧ exL cls iInit theFuel cf s_law_3 (F0 ns (some (.ints dr)) (some (.own m)) none none none) = some (.next, F0 ns (some (.ints dr)) (some (.own m')) q' none none) := by
  obtain ⟨m', q', h1, h2⟩ := lay (cf := cf) (ns := ns) (dr := dr) dr 0 m none (by omega) hm
  refine ⟨m', q', h1, Eq.trans ?_ h2⟩
  kernel_rfl
theorem h4 : exL cls iInit theFuel cf s_law_4 (F0 ns (some (.ints dr)) (some (.own m)) q none none) = some (.next, F0 ns (some (.ints dr)) (some (.own m)) q (some (.own m)) none) := by
  have c : cutI m none none = m := by
    show (m.drop 0).take (m.length - 0) = m
    rw [List.drop_zero, Nat.sub_zero, List.take_length]
  refine newl_of (xs := m) ?_ (by cases q <;> kernel_rfl) (by kernel_rfl)
  have e : evL cf (.slc (.own 2) .none .none) (F0 ns (some (.ints dr)) (some (.own m)) q none none) = some (.ints (cutI m none none)) := by kernel_rfl
  rw [e, c]
theorem h5 (hm : MemOk m) : exL cls iInit theFuel cf s_law_5 (F0 ns (some (.ints dr)) (some (.own m)) q (some (.own m)) none) = some (.next, F0 ns (some (.ints dr)) (some (.own m)) q (some (.own m)) (some (.mpu (mk1 (new0 512) (.int 0) (.bool false) (.int 512) []) 2))) :=
  mk_ok (pc := .int 512) (p := .int 512) (xs := m) (by kernel_rfl) (by kernel_rfl) (by kernel_rfl) made (by cases q <;> kernel_rfl) (by kernel_rfl) (ble_mem hm) (by kernel_rfl)
theorem h6 (hm : MemOk m) : exL cls iInit theFuel cf s_law_6 (F0 ns (some (.ints dr)) (some (.own m)) q (some (.own m)) (some (.mpu (mk1 (new0 512) (.int 0) (.bool false) (.int 512) []) 2))) = some (.next, LM ns dr q m m (new0 512) (.int 0) (.bool false) (new0 512) (.int 0) (.bool false) (.int 512) none none none none) :=
  mk_ok (pc := .int 512) (p := .int 512) (xs := m) (by kernel_rfl) (by kernel_rfl) (by kernel_rfl) made (by cases q <;> kernel_rfl) (by kernel_rfl) (ble_mem hm) (by kernel_rfl)
end
theorem law04 (ns : List Int) : ∃ ρ', exLs cls iInit theFuel (callL cls iInit theFuel theF 3) fn_law.body (some (.ints ns) :: List.replicate (fn_law.vars.length - 1) none) = some (.ret (.bool true), ρ') := by
  obtain ⟨m2, k2, e2⟩ := h2 (cf := callL cls iInit theFuel theF 3) (ns := ns) (dr := cutI ns none (some 40)) M0_ok
  obtain ⟨m3, q3, k3, e3⟩ := h3 (cf := callL cls iInit theFuel theF 3) (ns := ns) (dr := cutI ns none (some 40)) k2 (cut_le ns 40)
  obtain ⟨ρ', e7⟩ := tail (cf := callL cls iInit theFuel theF 3) (ns := ns) (dr := cutI ns none (some 40)) (q := q3) ⟨m3, _, _, _, _, _, _, none, none, none, bd_new k3, rfl⟩
  exact ⟨ρ', (exLs_go h0).trans ((exLs_go h1).trans ((exLs_go e2).trans ((exLs_go e3).trans ((exLs_go h4).trans ((exLs_go (h5 k3)).trans ((exLs_go (h6 k3)).trans e7))))))⟩
end Mine

end
section
open PySem PySem.W PyProof.Rows
set_option maxRecDepth 100000
set_option maxHeartbeats 0
namespace Mine
noncomputable abbrev rwS : OpenLaw := PySem.Challenge.rw_lr0005_04
theorem said_1 : namesResolve pw = true := by kernel_rfl
theorem said_2 : (namesMeet pw pw.main.body fun _ n => attrL n) = true := by kernel_rfl
theorem said_3 : noRoadLSs { strict := !(importedModules pw.main.body).all cThrough.contains, foot := none, bare := (["vars", "dir", "locals"] : List Str).filter (readsOut pw pw.main.body) } pw.main.body = true := by kernel_rfl
theorem said_looks : looksOpen pw = true := by
  unfold looksOpen
  rw [said_1, said_2, said_3]
  kernel_rfl
theorem said_part : rwS.row.partSaid = true := by
  unfold OpenRow.partSaid
  rw [show looksOpen rwS.row.prog = true from said_looks]
  kernel_rfl
theorem said_row : rwS.row.wellSaid = true := by
  unfold OpenRow.wellSaid
  rw [said_part]
  kernel_rfl
theorem said_law : rwS.wellSaid = true := by
  unfold OpenLaw.wellSaid
  rw [said_row]
  kernel_rfl
end Mine

end
section
open PySem PySem.W PyProof.Rows
set_option maxRecDepth 100000
set_option maxHeartbeats 0
namespace Mine
theorem row_done (said : rwN.row.wellSaid = true) : rwN.row.Holds :=
  row_holds (l := rwN) (H := HK) (d := dLaw) law_prog rfl rfl rfl left law_Xt law_def law_the law_kw law_dfl said law_ok law_bare law_can
    (law_run fun ns _ => law04 ns)
end Mine
theorem PySem.Challenge.cw_lr0005_04_holds : PySem.Challenge.rw_lr0005_04.Holds :=
  ⟨Mine.said_law, Mine.row_done Mine.said_row⟩

end
