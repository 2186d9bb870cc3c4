import PyProof.Rows.All
import Wide.All
import OpenK.AllK
import Wide.FinOn
import KE.KRevSl
import KE.KPairComp
import Lean
import PySem.Challenge.RW_lr0005_01
set_option Elab.async false
set_option genInjectivity false
set_option genSizeOf false
set_option genSizeOfSpec false
section
open PySem PySem.W PyProof.Rows
set_option maxRecDepth 100000
set_option maxHeartbeats 0
namespace Mine
noncomputable def topGoT (tb : String → Option Builtin) (p : Program) (w : World) (n₀ : Nat) (ann : Option Value) : Nat → SharedT → Thread → Option (SharedT × Thread)
  | 0, s, t => some (s, t)
  | n + 1, s, t => match through t with
    | true => none
    | false => match stepOk n₀ ann t with
      | false => none
      | true => match stepT (denote tb) p w s t with
        | some (s', t') => topGoT tb p w n₀ ann n s' t'
        | none => none
noncomputable def topRunT (tb : String → Option Builtin) (p : Program) (w : World) (n₀ : Nat) (ann : Option Value) : Nat → SharedT → Thread → Option SharedT
  | 0, _, _ => none
  | n + 1, s, t => match through t with
    | true => some s
    | false => match stepOk n₀ ann t with
      | false => none
      | true => match stepT (denote tb) p w s t with
        | some (s', t') => topRunT tb p w n₀ ann n s' t'
        | none => none
section
variable {tb : String → Option Builtin} {p : Program} {w : World} {n₀ : Nat} {ann : Option Value}
theorem topGo_of : ∀ {n : Nat} {s s' : SharedT} {t t' : Thread}, topGoT tb p w n₀ ann n s t = some (s', t') → topGo tb p w n₀ ann n s.abs t = some (s'.abs, t')
  | 0, _, _, _, _, h => by cases h; rfl
  | n + 1, s, s', t, t', h => by
    unfold topGoT at h
    unfold topGo
    cases he : through t with
    | true => rw [he] at h; cases h
    | false =>
      rw [he] at h
      cases hk : stepOk n₀ ann t with
      | false => rw [hk] at h; cases h
      | true =>
        rw [hk] at h
        cases hs : stepT (denote tb) p w s t with
        | none => rw [hs] at h; cases h
        | some r => obtain ⟨s₂, t₂⟩ := r; rw [hs] at h; rw [stepT_spec hs]; exact topGo_of h
theorem topRun_of : ∀ {n : Nat} {s s' : SharedT} {t : Thread}, topRunT tb p w n₀ ann n s t = some s' → topRun tb p w n₀ ann n s.abs t = some s'.abs
  | 0, _, _, _, h => by cases h
  | n + 1, s, s', t, h => by
    unfold topRunT at h
    unfold topRun
    cases he : through t with
    | true => rw [he] at h; cases h; rfl
    | false =>
      rw [he] at h
      cases hk : stepOk n₀ ann t with
      | false => rw [hk] at h; cases h
      | true =>
        rw [hk] at h
        cases hs : stepT (denote tb) p w s t with
        | none => rw [hs] at h; cases h
        | some r => obtain ⟨s₂, t₂⟩ := r; rw [hs] at h; rw [stepT_spec hs]; exact topRun_of h
theorem goT_top {n N : Nat} {s s' : SharedT} {r : Shared} {t t' : Thread} (h : topGoT tb p w n₀ ann n s t = some (s', t')) (k : topRun tb p w n₀ ann N s'.abs t' = some r) : topRun tb p w n₀ ann (n + N) s.abs t = some r :=
  go_top (topGo_of h) k
end
structure SC where
  T : BT
  n : Nat
  life : Life
  gens : Array GenState
  drawn : Drawn
  toks : Nat
  os : OsState
  c : Nat
noncomputable def SC.s (x : SC) : SharedT := ⟨x.T, x.n, x.life, x.gens, x.drawn, x.toks, x.os⟩
noncomputable def SC.of (s : SharedT) (c : Nat) : SC := ⟨s.tree, s.n, s.life, s.gens, s.drawn, s.toks, s.os, c⟩
noncomputable def lookT (T : BT) (n a : Nat) : Option Obj := cond (Nat.blt a n) ((T.get a).bind alive) none
noncomputable def mayT (n₀ : Nat) (ann : Option Value) (a : Addr) : Bool := Nat.ble n₀ a || a == mainNs || a == cStatics || ann == some (.ref a)
noncomputable def drive (p : Program) (w : World) (n₀ : Nat) (ann : Option Value) {α : Type} : Sem α → SC → Option (α × SC)
  | .pure a, s => some (a, s)
  | .rule _ k, ⟨T, n, life, gens, drawn, toks, os, c⟩ => drive p w n₀ ann (k ()) ⟨T, n, life, gens, drawn, toks, os, c + 1⟩
  | .at _ k, ⟨T, n, life, gens, drawn, toks, os, c⟩ => drive p w n₀ ann (k ()) ⟨T, n, life, gens, drawn, toks, os, c + 1⟩
  | .point _ k, ⟨T, n, life, gens, drawn, toks, os, c⟩ => drive p w n₀ ann (k ()) ⟨T, n, life, gens, drawn, toks, os, c + 1⟩
  | .ask k, ⟨T, n, life, gens, drawn, toks, os, c⟩ => drive p w n₀ ann (k ⟨p, w.params⟩) ⟨T, n, life, gens, drawn, toks, os, c + 1⟩
  | .fresh k, ⟨T, n, life, gens, drawn, toks, os, c⟩ => drive p w n₀ ann (k toks) ⟨T, n, life, gens, drawn, toks + 1, os, c + 1⟩
  | .load a _ k, ⟨T, n, life, gens, drawn, toks, os, c⟩ => (lookT T n a).bind fun o => drive p w n₀ ann (k o) ⟨T, n, life, gens, drawn, toks, os, c + 1⟩
  | .update a _ f k, ⟨T, n, life, gens, drawn, toks, os, c⟩ => cond (mayT n₀ ann a) ((lookT T n a).bind fun _ => drive p w n₀ ann (k ()) ⟨T.set a f, n, life, gens, drawn, toks, os, c + 1⟩) none
  | .alloc o k, ⟨T, n, life, gens, drawn, toks, os, c⟩ => cond ((T.ins n o).get n).isSome (drive p w n₀ ann (k n) ⟨T.ins n o, n + 1, life, gens, drawn, toks, os, c + 1⟩) none
  | _, _ => none
theorem bindO {α β : Type} {o : Option α} {f : α → Option β} {r : β} (h : o.bind f = some r) : ∃ a, o = some a ∧ f a = some r := Option.bind_eq_some_iff.mp h
theorem condO {β : Type} {b : Bool} {o : Option β} {r : β} (h : cond b o none = some r) : b = true ∧ o = some r := by cases b; cases h; exact ⟨rfl, h⟩
theorem lookT_of {T : BT} {n a : Nat} {o : Obj} (h : lookT T n a = some o) : Nat.blt a n = true ∧ ∃ o', T.get a = some o' ∧ alive o' = some o := by
  obtain ⟨h1, h⟩ := condO h
  exact ⟨h1, bindO h⟩
section
variable {p : Program} {w : World} {n₀ : Nat} {ann : Option Value} {α β : Type}
section
variable {tb : String → Option Builtin} {T : BT} {n : Nat} {life : Life} {gens : Array GenState} {drawn : Drawn} {toks : Nat} {os : OsState} {code : Code} {pos : Pos} {fr : Frame} {fs : List Frame} {N : Nat}
theorem go_load {a : Addr} {q : Option Value} {k : Obj → Sem Fin} {o : Obj} (h : lookT T n a = some o) : topGoT tb p w n₀ ann (N + 1) ⟨T, n, life, gens, drawn, toks, os⟩ ⟨.load a q k, code, pos, fr :: fs⟩ = topGoT tb p w n₀ ann N ⟨T, n, life, gens, drawn, toks, os⟩ ⟨k o, code, pos, fr :: fs⟩ := by
  obtain ⟨h1, o', h2, h3⟩ := lookT_of h
  show (match stepT (denote tb) p w ⟨T, n, life, gens, drawn, toks, os⟩ ⟨.load a q k, code, pos, fr :: fs⟩ with | some (s', t') => topGoT tb p w n₀ ann N s' t' | none => none) = _
  simp only [stepT, h1, h2, h3]
theorem go_update {a : Addr} {q : Option Value} {f : Obj → Obj} {k : Unit → Sem Fin} {o : Obj} (h0 : mayT n₀ ann a = true) (h : lookT T n a = some o) : topGoT tb p w n₀ ann (N + 1) ⟨T, n, life, gens, drawn, toks, os⟩ ⟨.update a q f k, code, pos, fr :: fs⟩ = topGoT tb p w n₀ ann N ⟨T.set a f, n, life, gens, drawn, toks, os⟩ ⟨k (), code, pos, fr :: fs⟩ := by
  obtain ⟨h1, o', h2, h3⟩ := lookT_of h
  have hk : stepOk n₀ ann ⟨.update a q f k, code, pos, fr :: fs⟩ = true := h0
  show (match stepOk n₀ ann ⟨.update a q f k, code, pos, fr :: fs⟩ with | false => none | true => match stepT (denote tb) p w ⟨T, n, life, gens, drawn, toks, os⟩ ⟨.update a q f k, code, pos, fr :: fs⟩ with | some (s', t') => topGoT tb p w n₀ ann N s' t' | none => none) = _
  rw [hk]
  simp only [stepT, h1, h2, h3]
theorem go_alloc {o : Obj} {k : Addr → Sem Fin} (h : ((T.ins n o).get n).isSome = true) : topGoT tb p w n₀ ann (N + 1) ⟨T, n, life, gens, drawn, toks, os⟩ ⟨.alloc o k, code, pos, fr :: fs⟩ = topGoT tb p w n₀ ann N ⟨T.ins n o, n + 1, life, gens, drawn, toks, os⟩ ⟨k n, code, pos, fr :: fs⟩ := by
  show (match stepT (denote tb) p w ⟨T, n, life, gens, drawn, toks, os⟩ ⟨.alloc o k, code, pos, fr :: fs⟩ with | some (s', t') => topGoT tb p w n₀ ann N s' t' | none => none) = _
  simp only [stepT, h]
end
noncomputable def Goes (tb : String → Option Builtin) (p : Program) (w : World) (n₀ : Nat) (ann : Option Value) (m : Sem α) (s : SC) (a : α) (s' : SC) : Prop :=
  ∃ n, s'.c = s.c + n ∧ ∀ (k : α → Sem Fin) (code : Code) (pos : Pos) (fr : Frame) (fs : List Frame), ∃ pos', topGoT tb p w n₀ ann n s.s ⟨m.bind k, code, pos, fr :: fs⟩ = some (s'.s, ⟨k a, code, pos', fr :: fs⟩)
theorem Goes.step {tb : String → Option Builtin} {m m₁ : Sem α} {s s₁ s' : SC} {a : α} (g : Goes tb p w n₀ ann m₁ s₁ a s') (q : Pos → Pos) (hc : s₁.c = s.c + 1) (h : ∀ N (k : α → Sem Fin) code pos fr fs, topGoT tb p w n₀ ann (N + 1) s.s ⟨m.bind k, code, pos, fr :: fs⟩ = topGoT tb p w n₀ ann N s₁.s ⟨m₁.bind k, code, q pos, fr :: fs⟩) : Goes tb p w n₀ ann m s a s' := by
  obtain ⟨n, hc', hn⟩ := g
  exact ⟨n + 1, by lia, fun k code pos fr fs => by rw [h]; exact hn k code (q pos) fr fs⟩
theorem drive_goes {tb : String → Option Builtin} (m : Sem α) : ∀ (s : SC) (a : α) (s' : SC), drive p w n₀ ann m s = some (a, s') → Goes tb p w n₀ ann m s a s' := by
  induction m with
  | pure a => intro s b s' h; cases h; exact ⟨0, rfl, fun k code pos fr fs => ⟨pos, rfl⟩⟩
  | rule t k ih => rintro ⟨T, n, life, gens, drawn, toks, os, c⟩ b s' h; exact (ih () _ b s' h).step id rfl fun _ _ _ _ _ _ => rfl
  | «at» t k ih => rintro ⟨T, n, life, gens, drawn, toks, os, c⟩ b s' h; exact (ih () _ b s' h).step (fun _ => t) rfl fun _ _ _ _ _ _ => rfl
  | point t k ih => rintro ⟨T, n, life, gens, drawn, toks, os, c⟩ b s' h; exact (ih () _ b s' h).step id rfl fun _ _ _ _ _ _ => rfl
  | ask k ih => rintro ⟨T, n, life, gens, drawn, toks, os, c⟩ b s' h; exact (ih _ _ b s' h).step id rfl fun _ _ _ _ _ _ => rfl
  | fresh k ih => rintro ⟨T, n, life, gens, drawn, toks, os, c⟩ b s' h; exact (ih _ _ b s' h).step id rfl fun _ _ _ _ _ _ => rfl
  | load a q k ih =>
    rintro ⟨T, n, life, gens, drawn, toks, os, c⟩ b s' h
    obtain ⟨o, ho, h⟩ := bindO h
    exact (ih o _ b s' h).step id rfl fun _ _ _ _ _ _ => go_load ho
  | update a q f k ih =>
    rintro ⟨T, n, life, gens, drawn, toks, os, c⟩ b s' h
    obtain ⟨h0, h⟩ := condO h
    obtain ⟨o, ho, h⟩ := bindO h
    exact (ih () _ b s' h).step id rfl fun _ _ _ _ _ _ => go_update h0 ho
  | alloc o k ih =>
    rintro ⟨T, n, life, gens, drawn, toks, os, c⟩ b s' h
    obtain ⟨h0, h⟩ := condO h
    exact (ih _ _ b s' h).step id rfl fun _ _ _ _ _ _ => go_alloc h0
  | _ => intro s b s' h; cases h
theorem drive_keep (vs : List Value) (m : Sem α) : ∀ s : SC, drive p w n₀ ann (m.keep vs) s = drive p w n₀ ann m s := by
  induction m with
  | rule t k ih => rintro ⟨T, n, life, gens, drawn, toks, os, c⟩; exact ih () _
  | «at» t k ih => rintro ⟨T, n, life, gens, drawn, toks, os, c⟩; exact ih () _
  | point t k ih => rintro ⟨T, n, life, gens, drawn, toks, os, c⟩; exact ih () _
  | ask k ih => rintro ⟨T, n, life, gens, drawn, toks, os, c⟩; exact ih _ _
  | fresh k ih => rintro ⟨T, n, life, gens, drawn, toks, os, c⟩; exact ih _ _
  | load a q k ih => rintro ⟨T, n, life, gens, drawn, toks, os, c⟩; exact congrArg (Option.bind _) (funext fun o => ih o _)
  | update a q f k ih => rintro ⟨T, n, life, gens, drawn, toks, os, c⟩; exact congrArg (cond _ · _) (congrArg (Option.bind _) (funext fun o => ih () _))
  | alloc o k ih => rintro ⟨T, n, life, gens, drawn, toks, os, c⟩; exact congrArg (cond _ · _) (ih _ _)
  | _ => intro s; rfl
theorem drive_holding (vs : List Value) (m : Sem α) (s : SC) : drive p w n₀ ann (holding vs m) s = drive p w n₀ ann m s := by
  unfold holding; split
  · rfl
  · exact drive_keep _ _ _
theorem drive_onRaise (h : Value → Sem Unit) (m : Sem α) : ∀ (s : SC) (r : α × SC), drive p w n₀ ann m s = some r → drive p w n₀ ann (m.onRaise h) s = some r := by
  induction m with
  | pure a => exact fun s r e => e
  | rule t k ih => rintro ⟨T, n, life, gens, drawn, toks, os, c⟩ r e; exact ih () _ r e
  | «at» t k ih => rintro ⟨T, n, life, gens, drawn, toks, os, c⟩ r e; exact ih () _ r e
  | point t k ih => rintro ⟨T, n, life, gens, drawn, toks, os, c⟩ r e; exact ih () _ r e
  | ask k ih => rintro ⟨T, n, life, gens, drawn, toks, os, c⟩ r e; exact ih _ _ r e
  | fresh k ih => rintro ⟨T, n, life, gens, drawn, toks, os, c⟩ r e; exact ih _ _ r e
  | load a q k ih =>
    rintro ⟨T, n, life, gens, drawn, toks, os, c⟩ r e
    obtain ⟨o, ho, e⟩ := bindO e
    exact Option.bind_eq_some_iff.mpr ⟨o, ho, ih o _ r e⟩
  | update a q f k ih =>
    rintro ⟨T, n, life, gens, drawn, toks, os, c⟩ r e
    obtain ⟨h0, e⟩ := condO e
    obtain ⟨o, ho, e⟩ := bindO e
    show cond (mayT n₀ ann a) ((lookT T n a).bind fun _ => drive p w n₀ ann ((k ()).onRaise h) _) none = _
    rw [h0]
    exact Option.bind_eq_some_iff.mpr ⟨o, ho, ih () _ r e⟩
  | alloc o k ih =>
    rintro ⟨T, n, life, gens, drawn, toks, os, c⟩ r e
    obtain ⟨h0, e⟩ := condO e
    show cond _ (drive p w n₀ ann ((k n).onRaise h) _) none = _
    rw [h0]
    exact ih _ _ r e
  | _ => intro s r e; cases e
theorem bind_cond {b : Bool} {o : Option α} {f : α → Option β} : (cond b o none).bind f = cond b (o.bind f) none := by cases b <;> rfl
theorem drive_bind (f : α → Sem β) (m : Sem α) : ∀ s : SC, drive p w n₀ ann (m.bind f) s = (drive p w n₀ ann m s).bind fun r => drive p w n₀ ann (f r.1) r.2 := by
  induction m with
  | rule t k ih => rintro ⟨T, n, life, gens, drawn, toks, os, c⟩; exact ih () _
  | «at» t k ih => rintro ⟨T, n, life, gens, drawn, toks, os, c⟩; exact ih () _
  | point t k ih => rintro ⟨T, n, life, gens, drawn, toks, os, c⟩; exact ih () _
  | ask k ih => rintro ⟨T, n, life, gens, drawn, toks, os, c⟩; exact ih _ _
  | fresh k ih => rintro ⟨T, n, life, gens, drawn, toks, os, c⟩; exact ih _ _
  | load a q k ih => rintro ⟨T, n, life, gens, drawn, toks, os, c⟩; exact (congrArg (Option.bind _) (funext fun o => ih o _)).trans (Option.bind_assoc _ _ _).symm
  | update a q g k ih => rintro ⟨T, n, life, gens, drawn, toks, os, c⟩; exact (congrArg (cond _ · _) ((congrArg (Option.bind _) (funext fun o => ih () _)).trans (Option.bind_assoc _ _ _).symm)).trans bind_cond.symm
  | alloc o k ih => rintro ⟨T, n, life, gens, drawn, toks, os, c⟩; exact (congrArg (cond _ · _) (ih _ _)).trans bind_cond.symm
  | _ => intro s; rfl
theorem drive_then {m : Sem α} {f : α → Sem β} {s s₁ : SC} {a : α} {r : Option (β × SC)} (h : drive p w n₀ ann m s = some (a, s₁)) (k : drive p w n₀ ann (f a) s₁ = r) : drive p w n₀ ann (m >>= f) s = r := by
  show drive p w n₀ ann (m.bind f) s = r
  rw [drive_bind, h]; exact k
theorem drive_execs {env : Env} : ∀ (l₁ l₂ : List Stmt) (s s₁ : SC) (r : Option (Flow × SC)), drive p w n₀ ann (execs l₁ env) s = some (.next, s₁) → drive p w n₀ ann (execs l₂ env) s₁ = r → drive p w n₀ ann (execs (l₁ ++ l₂) env) s = r
  | [], l₂, s, s₁, r, h, k => by cases h; exact k
  | st :: l, l₂, s, s₁, r, h, k => by
    have e : ∀ l, execs (st :: l) env = (exec st env).bind fun f => match f with | .next => execs l env | f => pure f := fun _ => rfl
    rw [e, drive_bind] at h
    show drive p w n₀ ann (execs (st :: (l ++ l₂)) env) s = r
    rw [e, drive_bind]
    cases q : drive p w n₀ ann (exec st env) s with
    | none => rw [q] at h; cases h
    | some x =>
      obtain ⟨f, s₂⟩ := x
      rw [q] at h
      cases f with
      | next => exact drive_execs l l₂ s₂ s₁ r h k
      | brk => cases h
      | cont => cases h
      | ret v => cases h
theorem drive_spliced {x : Sem Value} {rest : List (Bool × Sem Value)} {s s₁ s₂ : SC} {v : Value} {vs : List Value} (h : drive p w n₀ ann x s = some (v, s₁)) (k : drive p w n₀ ann (spliced rest) s₁ = some (vs, s₂)) :
    drive p w n₀ ann (spliced ((false, x) :: rest)) s = some (v :: vs, s₂) := by
  refine drive_then (f := fun v => _) h ?_
  refine drive_then (m := holding [v] (spliced rest)) (a := vs) (s₁ := s₂) ?_ rfl
  rw [drive_holding]; exact k

noncomputable def nameRow (env : Env) (o : Obj) : PySem.Expr → Bool × Option NameKind × Bool × Option (Option Value)
  | .Name n _ => (true, env.kindOf n, n == ("__debug__" : Str), lookIn n o)
  | _ => (false, none, true, none)
noncomputable def goodRow (a : Addr) : Bool × Option NameKind × Bool × Option (Option Value) := (true, some .local, false, some (some (.ref a)))
noncomputable def SC.up (s : SC) (k : Nat) : SC := { s with c := s.c + k }
theorem drive_name {env : Env} {o : Obj} {n : Str} {q : Pos} {a : Addr} {s : SC} (hk : env.scope.kind = .class) (hl : Nat.blt env.locals s.n = true) (ho : s.T.get env.locals = some o) (ha : alive o = some o) (hc : (o.cls == .type "dict") = true)
    (h : nameRow env o (.Name n q) = goodRow a) : drive p w n₀ ann (eval (.Name n q) env) s = some (.ref a, s.up 3) := by
  obtain ⟨T, m, life, gens, drawn, toks, os, c⟩ := s
  obtain ⟨_, h1, h2, h3⟩ : _ ∧ _ ∧ _ ∧ _ := by simpa only [nameRow, goodRow, Prod.mk.injEq] using h
  have e : eval (.Name n q) env = (do standAt q; if n == ("__debug__" : Str) then debugConstant else loadName env n) := rfl
  have hb : env.blockKind = .class := by unfold Env.blockKind; rw [hk]; rfl
  have l : loadName env n = (do if let some v ← localGet env n then return v
                                loadGlobal env n) := by
    unfold loadName
    rw [hk, hb, h1]
    rfl
  rw [e, h2, if_neg (by simp), l]
  have g : drive p w n₀ ann (localGet env n) ⟨T, m, life, gens, drawn, toks, os, c + 1⟩ = some (some (.ref a), ⟨T, m, life, gens, drawn, toks, os, c + 3⟩) := by
    have lk : lookT T m env.locals = some o := by
      show cond (Nat.blt env.locals m) _ _ = _
      rw [hl]
      show ((T.get env.locals).bind alive) = _
      rw [ho]; exact ha
    show (lookT T m env.locals).bind (fun x => drive p w n₀ ann (if x.cls == .type "dict" then nsGet env.locals n else _) _) = _
    rw [lk]
    show drive p w n₀ ann (if o.cls == .type "dict" then nsGet env.locals n else _) _ = _
    rw [if_pos hc]
    show (lookT T m env.locals).bind (fun x => drive p w n₀ ann (nsLook n x) _) = _
    rw [lk]
    show drive p w n₀ ann (nsLook n o) _ = _
    rw [nsLook_of h3]; rfl
  exact drive_then (m := standAt q) (a := ()) (s₁ := ⟨T, m, life, gens, drawn, toks, os, c + 1⟩) rfl (drive_then g rfl)
theorem drive_names {env : Env} {o : Obj} {q : Pos} (hk : env.scope.kind = .class) (ha : alive o = some o) (hc : (o.cls == .type "dict") = true) :
    ∀ (es : List PySem.Expr) (as : List Addr) (s : SC), Nat.blt env.locals s.n = true → s.T.get env.locals = some o → es.map (nameRow env o) = as.map goodRow → drive p w n₀ ann (spliced (backTo q (starEach es env))) s = some (as.map Value.ref, s.up (3 * es.length))
  | [], [], _, _, _, _ => rfl
  | e :: es, a :: as, s, hl, ho, h => by
    obtain ⟨h1, h2⟩ := List.cons.inj h
    cases e <;> first | (cases h1; done) | skip
    have := drive_spliced (drive_name (p := p) (w := w) (n₀ := n₀) (ann := ann) hk hl ho ha hc h1) (drive_names (q := q) hk ha hc es as (s.up 3) hl ho h2)
    rw [show (s.up 3).up (3 * es.length) = s.up (3 * (es.length + 1)) by simp only [SC.up]; congr 1; lia] at this
    exact this
  | [], _ :: _, _, _, _, h => by cases h
  | _ :: _, [], _, _, _, h => by cases h
noncomputable def intsOk : List PySem.Expr → Bool
  | [] => true
  | .Constant (.int _) _ _ :: l => intsOk l
  | _ => false
noncomputable def intsAt : Nat → List PySem.Expr → List Value
  | _, [] => []
  | k, .Constant (.int i) _ _ :: l => .int i k :: intsAt (k + 1) l
  | k, _ :: l => intsAt k l
theorem intsOk_cons {e : PySem.Expr} {es : List PySem.Expr} (h : intsOk (e :: es) = true) : ∃ i k p, e = .Constant (.int i) k p ∧ intsOk es = true := by
  unfold intsOk at h
  split at h
  · rename_i heq; cases heq
  · rename_i heq; cases heq; exact ⟨_, _, _, rfl, h⟩
  · cases h
theorem drive_ints {env : Env} {q : Pos} : ∀ (es : List PySem.Expr) (s : SC), intsOk es = true → drive p w n₀ ann (spliced (backTo q (starEach es env))) s = some (intsAt s.toks es, { s with toks := s.toks + es.length, c := s.c + es.length })
  | [], s, _ => rfl
  | e :: es, ⟨T, m, life, gens, drawn, toks, os, c⟩, h => by
    obtain ⟨i, k, q', rfl, h⟩ := intsOk_cons h
    have := drive_spliced (p := p) (w := w) (n₀ := n₀) (ann := ann) (x := mkInt i) (s := ⟨T, m, life, gens, drawn, toks, os, c⟩) (s₁ := ⟨T, m, life, gens, drawn, toks + 1, os, c + 1⟩) (v := .int i toks) rfl (drive_ints (env := env) (q := q) es ⟨T, m, life, gens, drawn, toks + 1, os, c + 1⟩ h)
    rw [show toks + 1 + es.length = toks + (es.length + 1) by lia, show c + 1 + es.length = c + (es.length + 1) by lia] at this
    exact this
theorem drive_listStmt {env : Env} {id : Str} {p1 p2 p3 : Pos} {elts : List PySem.Expr} {vs : List Value} {s s₁ : SC} {r : Option (Flow × SC)} (hs : drive p w n₀ ann (spliced (backTo p2 (starEach elts env))) (s.up 2) = some (vs, s₁))
    (hk : drive p w n₀ ann (newList vs >>= fun v => standAt p1 >>= fun _ => bindName env id v >>= fun _ => pure Flow.next) s₁ = r) :
    drive p w n₀ ann (execs [.Assign [.Name id p1] (.List elts p2) p3] env) s = r.bind fun x => match x with | (.next, s) => some (.next, s) | x => some x := by
  have e : execs [.Assign [.Name id p1] (.List elts p2) p3] env = (exec (.Assign [.Name id p1] (.List elts p2) p3) env).bind fun f => match f with | .next => pure .next | f => pure f := rfl
  rw [e, drive_bind, exec_Assign_Name _ _ _ _ _ rfl]
  have : drive p w n₀ ann (do standAt p3; let v ← eval (.List elts p2) env; standAt p1; bindName env id v; pure Flow.next) s = r := by
    refine drive_then (m := standAt p3) (a := ()) (s₁ := s.up 1) (by cases s; rfl) ?_
    show drive p w n₀ ann ((standAt p2 >>= fun _ => spliced (backTo p2 (starEach elts env)) >>= newList).bind _) _ = r
    rw [drive_bind]
    show (drive p w n₀ ann ((standAt p2).bind fun _ => (spliced (backTo p2 (starEach elts env))).bind newList) _).bind _ = r
    rw [drive_bind]
    have : drive p w n₀ ann (standAt p2) (s.up 1) = some ((), s.up 2) := by cases s; rfl
    rw [this]
    show (drive p w n₀ ann ((spliced (backTo p2 (starEach elts env))).bind newList) (s.up 2)).bind _ = r
    rw [drive_bind, hs]
    show (drive p w n₀ ann (newList vs) s₁).bind _ = r
    exact (drive_bind (p := p) (w := w) (n₀ := n₀) (ann := ann) (fun v => standAt p1 >>= fun _ => bindName env id v >>= fun _ => pure Flow.next) (newList vs) s₁).symm.trans hk
  rw [this]
  cases r with
  | none => rfl
  | some x => obtain ⟨f, s⟩ := x; cases f <;> rfl
end

section
variable {p : Program} {w : World} {n₀ : Nat} {ann : Option Value}
theorem names_stmt {env : Env} {id : Str} {p1 p2 p3 : Pos} {elts : List PySem.Expr} {as : List Addr} {o : Obj} {s s₂ : SC} {sts : List Stmt} {n : Nat} (hs : sts = [.Assign [.Name id p1] (.List elts p2) p3]) (hk : env.scope.kind = .class) (ha : alive o = some o) (hc : (o.cls == .type "dict") = true)
    (hl : Nat.blt env.locals s.n = true) (ho : s.T.get env.locals = some o) (h : elts.map (nameRow env o) = as.map goodRow) (hn : elts.length = n)
    (hb : drive p w n₀ ann (newList (as.map Value.ref) >>= fun v => standAt p1 >>= fun _ => bindName env id v >>= fun _ => pure Flow.next) ((s.up 2).up (3 * n)) = some (.next, s₂)) : drive p w n₀ ann (execs sts env) s = some (.next, s₂) := by
  subst hs hn
  exact drive_listStmt (drive_names hk ha hc elts as (s.up 2) hl ho h) hb
theorem ints_stmt {env : Env} {id : Str} {p1 p2 p3 : Pos} {elts : List PySem.Expr} {s s₂ : SC} {sts : List Stmt} {n : Nat} (hs : sts = [.Assign [.Name id p1] (.List elts p2) p3]) (h : intsOk elts = true) (hn : elts.length = n)
    (hb : drive p w n₀ ann (newList (intsAt s.toks elts) >>= fun v => standAt p1 >>= fun _ => bindName env id v >>= fun _ => pure Flow.next) { s with toks := s.toks + n, c := s.c + 2 + n } = some (.next, s₂)) : drive p w n₀ ann (execs sts env) s = some (.next, s₂) := by
  subst hs hn
  exact drive_listStmt (drive_ints elts (s.up 2) h) hb
end
theorem LeftO.of_run {p q : Program} {loose : List Str} {Xt : Shared → Bool} {α : Type} {Yf : Shared → α} {Ya : World → α} {N : Nat} {g0 : Bool} {H₀ : Params → Heap} {gs₀ : Array GenState} {d₀ : Drawn} {k₀ : Nat} {m₀ : Nat} {ann : Option Value} {F : World → OsState → Shared}
    (open_ : ∀ w : World, (fencedOpening treeTable p w N).map (fun s => (s.heap, s.gens, s.drawn, s.toks)) = some (H₀ w.params, gs₀, d₀, k₀))
    (size : ∀ w : World, ((H₀ w.params).isNs mainGlobals && gs₀.size == 0, (H₀ w.params).objs.size, (H₀ w.params).nsMap mainGlobals "__annotations__") = (true, m₀, ann))
    (run : ∀ (w : World) (os : OsState), ∃ M, M ≤ N ∧ topRun treeTable p w m₀ ann M ⟨H₀ w.params, gs₀, d₀, k₀, os⟩ (topStub p) = some (F w os))
    (looks : ∀ (w : World) (os : OsState), ((staticsOk (importedModules p.main.body) (H₀ w.params) (F w os).heap && namesBound p (F w os).heap && gensDone (F w os) && laidKept (H₀ w.params) (F w os).heap),
        openSeen q loose (importedModules p.main.body) Xt g0 (F w os), Yf (F w os)) = (true, openGood q loose, Ya w)) : LeftO p q loose Xt Yf Ya N g0 := fun w => by
  obtain ⟨⟨h, gs, d, k, os⟩, e, e'⟩ := Option.map_eq_some_iff.mp (open_ w)
  obtain ⟨rfl, rfl, rfl, rfl⟩ : h = H₀ w.params ∧ gs = gs₀ ∧ d = d₀ ∧ k = k₀ := by simpa using e'
  obtain ⟨z1, z2, z3⟩ : _ ∧ _ ∧ _ := by simpa only [Prod.mk.injEq] using size w
  obtain ⟨l1, l2, l3⟩ : _ ∧ _ ∧ _ := by simpa only [Prod.mk.injEq] using looks w os
  obtain ⟨M, le, run⟩ := run w os
  have r := topRun_mono (N - M) _ _ _ _ run
  rw [show M + (N - M) = N by lia] at r
  have t : topFrom treeTable p w N ⟨H₀ w.params, gs, d, k, os⟩ = some (F w os) := by
    unfold topFrom
    dsimp only
    rw [z1, z2, z3, r]
    show (match staticsOk (importedModules p.main.body) (H₀ w.params) (F w os).heap && namesBound p (F w os).heap && gensDone (F w os) && laidKept (H₀ w.params) (F w os).heap with | true => _ | false => _) = _
    rw [l1]
  unfold openEnds
  rw [e]
  show (topFrom treeTable p w N _).map _ = _
  rw [t]
  exact congrArg some (Prod.ext l2 l3)

noncomputable def btOf : Nat → List Obj → BT → BT
  | _, [], t => t
  | i, o :: l, t => btOf (i + 1) l (t.ins i o)
structure Cfg where
  nsA : Addr
  plA : Addr
  qual : Str
  modV : Value
  text : Nat
  file : Str
  instr : List Nat
structure Acc where
  t : BT
  n : Nat
  k : Nat
  ents : List DictEntry
  pl : List Value
noncomputable def hashOf (P : Params) (s : Str) : Int := if s.cps.isEmpty then 0 else reduceHash (P.strHash s.cps)
noncomputable def entOf (P : Params) (name : Str) (k : Nat) (v : Value) : DictEntry := ⟨hashOf P name, .str name k, v⟩
noncomputable def textsAt : Nat → List Str → List Value
  | _, [] => []
  | k, s :: l => .str s k :: textsAt (k + 1) l
noncomputable def constsAt : Nat → List PySem.Expr → List Value × Nat
  | k, [] => ([], k)
  | k, .Constant (.int i) _ _ :: l => let (vs, k') := constsAt (k + 1) l; (.int i k :: vs, k')
  | k, .Constant .none _ _ :: l => let (vs, k') := constsAt k l; (.none :: vs, k')
  | k, _ :: l => constsAt k l
noncomputable def tupO (vs : List Value) : Obj := { cls := .type "tuple", data := .seq vs.toArray }
noncomputable def codeO (c : Cfg) (name : Str) (args : Arguments) (body : List Stmt) (scope : Scope) (pos : Pos) (n k : Nat) : Obj :=
  let q := c.qual ++ name
  let (ls, cs) := (localNames args scope (.stmts body)).getD ([], [])
  let k3 := k + 3 + ls.length + cs.length
  let cx : CodeContext := { file := c.file, future := 0, inFunction := false, text := c.text }
  { cls := .type "code", data := .fields #[.str name k, .str q (k + 1), .str c.file (k + 2), rawInt pos.line, rawInt ((args.posonlyargs.length + args.args.length : Nat) : Int), rawInt (args.posonlyargs.length : Nat), rawInt (args.kwonlyargs.length : Nat),
    rawInt (functionFlags args.vararg.isSome args.kwarg.isSome scope cx : Nat), .ref n, .bool true, rawInt (c.text : Nat), .ref (n + 1), .none, .ref (n + 2), .ref (n + 3), .ref (n + 4), rawInt (k3 : Nat), rawInt pos.line, .str c.file (k3 + 1)] }
noncomputable def fnD (c : Cfg) (name : Str) (args : Arguments) (body : List Stmt) (scope : Scope) (dV : Value) (code : Addr) : FuncData :=
  { name, qualname := c.qual ++ name, params := args, body := .stmts body, scope, globals := mainNs, closure := [], defaults := dV, kwdefaults := .none, pyModule := c.modV, code := .ref code, builtins := builtinsNs }
noncomputable def fnO (fd : FuncData) : Obj := { cls := .type "function", data := .func fd }
noncomputable def layDef (P : Params) (c : Cfg) (name : Str) (args : Arguments) (body : List Stmt) (scope : Scope) (bind : Str) (pos : Pos) (dV : Value) : Acc → Acc
  | ⟨t, n, k, ents, pl⟩ => match (localNames args scope (.stmts body)).getD ([], []) with
    | (ls, cs) => ⟨((((((t.ins n (tupO [])).ins (n + 1) { cls := .none, data := .fields #[] }).ins (n + 2) (tupO (textsAt (k + 3) ls))).ins (n + 3) (tupO (textsAt (k + 3 + ls.length) cs))).ins (n + 4) { cls := .none, data := .func { name, qualname := c.qual ++ name, params := args, body := .stmts body, scope, globals := builtinsNs, closure := [], defaults := .none, kwdefaults := .none } }).ins (n + 5) (codeO c name args body scope pos n k)).ins (n + 6) (fnO (fnD c name args body scope dV (n + 5))),
        n + 7, k + 3 + ls.length + cs.length + 3, entOf P bind (k + 3 + ls.length + cs.length + 2) (.ref (n + 6)) :: ents, .ref (n + 5) :: rawInt pos.col :: rawInt pos.line :: pl⟩
noncomputable def laySt (P : Params) (c : Cfg) (st : Stmt) : Acc → Acc
  | ⟨t, n, k, ents, pl⟩ => match st with
    | .Assign [.Name id _] (.Constant (.int i) _ _) _ => ⟨t, n, k + 2, entOf P id (k + 1) (.int i k) :: ents, pl⟩
    | .Assign [.Name id _] (.Constant (.str s) _ _) _ => ⟨t, n, k + 2, entOf P id (k + 1) (.str s k) :: ents, pl⟩
    | .Assign [.Name id _] (.List elts _) _ => match elts with
      | .Name _ _ :: _ => ⟨t.ins n { cls := .type "list", data := .seq (c.instr.map Value.ref).toArray }, n + 1, k + 1, entOf P id k (.ref n) :: ents, pl⟩
      | _ => ⟨t.ins n { cls := .type "list", data := .seq (intsAt k elts).toArray }, n + 1, k + elts.length + 1, entOf P id (k + elts.length) (.ref n) :: ents, pl⟩
    | .FunctionDef name args body _ _ _ scope _ bind pos => match args.defaults with
      | [] => layDef P c name args body scope bind pos .none ⟨t, n, k, ents, pl⟩
      | ds => match constsAt k ds with
        | (vs, k') => layDef P c name args body scope bind pos (.ref n) ⟨t.ins n (tupO vs), n + 1, k', ents, pl⟩
    | _ => ⟨t, n, k, ents, pl⟩
noncomputable def defPair (c : Cfg) (st : Stmt) (n k : Nat) (dV : Value) : List (Nat × Obj) := match st with
  | .FunctionDef name args body _ _ _ scope _ _ pos => [(n + 6, fnO (fnD c name args body scope dV (n + 5))), (n + 5, codeO c name args body scope pos n k)]
  | _ => []
noncomputable def laySts (P : Params) (c : Cfg) : Nat → List Stmt → Acc → Acc
  | 0, _, a => a
  | j + 1, st :: l, a => laySts P c j l (laySt P c st a)
  | _ + 1, [], a => a
noncomputable def addEnts (new : List DictEntry) : Obj → Obj
  | ⟨c, d, .dict es n, s⟩ => ⟨c, d, .dict (es.toList ++ new).toArray (n + new.length), s⟩
  | o => o
noncomputable def addFields (new : List Value) : Obj → Obj
  | ⟨c, d, .fields vs, s⟩ => ⟨c, d, .fields (vs.toList ++ new).toArray, s⟩
  | o => o
noncomputable def accState (c : Cfg) (s : SharedT) (a : Acc) (kk : Nat) : SC := match a with
  | ⟨t, n, k, ents, pl⟩ => ⟨(t.set c.nsA (addEnts ents.reverse)).set c.plA (addFields pl.reverse), n, s.life, s.gens, s.drawn, k, s.os, kk⟩
noncomputable def posAfter : Stmt → Pos
  | .FunctionDef _ _ _ _ _ _ _ _ _ pos => pos
  | .Assign [.Name _ pos] _ _ => pos
  | _ => default
end Mine

end
section
open PySem PySem.W PyProof.Rows
set_option linter.unusedVariables false
set_option maxRecDepth 100000
namespace Mine
inductive Fld where
  | pc | a | x | y | sp | p | cyc | exc | addc | start | bm | am | ahm | spb | mem | name
  deriving DecidableEq
noncomputable def Fld.nm : Fld → Str
  | .pc => "pc" | .a => "a" | .x => "x" | .y => "y" | .sp => "sp" | .p => "p" | .cyc => "processorCycles" | .exc => "excycles" | .addc => "addcycles" | .start => "start_pc"
  | .bm => "byteMask" | .am => "addrMask" | .ahm => "addrHighMask" | .spb => "spBase" | .mem => "memory" | .name => "name"
noncomputable def Fld.all : List Fld := [.pc, .a, .x, .y, .sp, .p, .cyc, .exc, .addc, .start, .bm, .am, .ahm, .spb, .mem, .name]
theorem Fld.mem_all (f : Fld) : f ∈ Fld.all := by cases f <;> decide
theorem Fld.nm_inj : ∀ f g : Fld, f.nm = g.nm → f = g := by
  have : (Fld.all.all fun f => Fld.all.all fun g => decide (f.nm = g.nm → f = g)) = true := by decide +kernel
  intro f g
  have h := List.all_eq_true.mp this f (Fld.mem_all f)
  exact of_decide_eq_true (List.all_eq_true.mp h g (Fld.mem_all g))

inductive V where
  | int (i : Int) | bool (b : Bool) | none | self | meth (m : Nat) | txt | memr | unset
inductive BOp where
  | add | sub | and | or | xor | shl | shr
  deriving DecidableEq
inductive COp where
  | eq | ne | lt | le | gt | ge
  deriving DecidableEq
inductive E where
  | int (i : Int)
  | none
  | var (v : Nat)
  | fld (f : Fld)
  | cst (c : Nat)
  | mref (m : Nat)
  | mem (i : E)
  | tab (t : Nat) (i : E)
  | bin (op : BOp) (a b : E)
  | inv (a : E)
  | cmp (op : COp) (a b : E)
  | isNone (v : Nat)
  | isNoneF (f : Fld)
  | txt
  | bool (b : Bool)
  | stuck
  | call0 (m : Nat)
  | call1 (m : Nat) (a : E)
  | call2 (m : Nat) (a b : E)
  | callV (v : Nat)
  | callT (i : E)
mutual
inductive S where
  | expr (e : E)
  | asgV (v : Nat) (e : E)
  | asgF (f : Fld) (e : E)
  | asgM (i e : E)
  | augV (v : Nat) (op : BOp) (e : E)
  | augF (f : Fld) (op : BOp) (e : E)
  | ite (c : E) (a b : Ss)
  | ret (e : E)
  | ret0
  | pass
inductive Ss where
  | nil
  | cons (s : S) (r : Ss)
end

structure M where
  pc : V
  a : V
  x : V
  y : V
  sp : V
  p : V
  cyc : V
  exc : V
  addc : V
  start : V
  bm : V
  am : V
  ahm : V
  spb : V
  hm : Bool
  hn : Bool
  mem : List Int
noncomputable def M.get (σ : M) : Fld → V
  | .pc => σ.pc | .a => σ.a | .x => σ.x | .y => σ.y | .sp => σ.sp | .p => σ.p | .cyc => σ.cyc | .exc => σ.exc | .addc => σ.addc | .start => σ.start
  | .bm => σ.bm | .am => σ.am | .ahm => σ.ahm | .spb => σ.spb | .mem => (match σ.hm with | true => .memr | false => .unset) | .name => (match σ.hn with | true => .txt | false => .unset)
noncomputable def M.set (σ : M) : Fld → V → Option M
  | .pc, v => some { σ with pc := v } | .a, v => some { σ with a := v } | .x, v => some { σ with x := v } | .y, v => some { σ with y := v } | .sp, v => some { σ with sp := v }
  | .p, v => some { σ with p := v } | .cyc, v => some { σ with cyc := v } | .exc, v => some { σ with exc := v } | .addc, v => some { σ with addc := v } | .start, v => some { σ with start := v }
  | .bm, v => some { σ with bm := v } | .am, v => some { σ with am := v } | .ahm, v => some { σ with ahm := v } | .spb, v => some { σ with spb := v }
  | .mem, .memr => some { σ with hm := true } | .name, .txt => some { σ with hn := true }
  | .mem, _ => none | .name, _ => none
theorem M.get_set {σ σ' : M} {f : Fld} {v : V} (h : σ.set f v = some σ') : σ'.mem = σ.mem ∧ ∀ g, σ'.get g = if g = f then v else σ.get g := by
  cases f
  case mem => cases v <;> cases h; exact ⟨rfl, fun g => by cases g <;> rfl⟩
  case name => cases v <;> cases h; exact ⟨rfl, fun g => by cases g <;> rfl⟩
  all_goals (cases h; exact ⟨rfl, fun g => by cases g <;> rfl⟩)

structure MethD where
  nm : Str
  np : Nat
  vars : List Str
  body : Ss
structure Cls where
  P : List MethD
  csts : List (Str × Int)
  tabs : List (Str × List Int)
  instrN : Str
  instr : List Nat

noncomputable def truth : V → Option Bool
  | .int i => some (i != 0)
  | .bool b => some b
  | .none => some false
  | _ => Option.none
noncomputable def BOp.ev : BOp → Int → Int → Option Int
  | .add, a, b => some (a + b)
  | .sub, a, b => some (a - b)
  | .and, a, b => some (Builtin.bitAnd a b)
  | .or, a, b => some (Builtin.bitOr a b)
  | .xor, a, b => some (Builtin.bitXor a b)
  | .shl, a, b => if 0 ≤ b ∧ b ≤ 64 ∧ a.natAbs < 2 ^ 64 then some (a * 2 ^ b.toNat) else Option.none
  | .shr, a, b => if 0 ≤ b then some (a.fdiv (2 ^ b.toNat)) else Option.none
noncomputable def COp.ev : COp → Int → Int → Bool
  | .eq, a, b => a == b
  | .ne, a, b => a != b
  | .lt, a, b => decide (a < b)
  | .le, a, b => decide (a ≤ b)
  | .gt, a, b => decide (a > b)
  | .ge, a, b => decide (a ≥ b)
noncomputable def at? (l : List Int) (k : Int) : Option Int := if 0 ≤ k then l[k.toNat]? else Option.none
noncomputable def putAt (l : List Int) (k v : Int) : Option (List Int) := if 0 ≤ k ∧ k.toNat < l.length then some (l.set k.toNat v) else Option.none

noncomputable abbrev Loc := List (Option V)
noncomputable def Loc.at (ρ : Loc) (v : Nat) : Option V := (ρ[v]?).join
section
variable {β : Type}
noncomputable def V.int? : V → Option Int
  | .int i => some i
  | _ => Option.none
noncomputable def V.meth? : V → Option Nat
  | .meth i => some i
  | _ => Option.none
noncomputable def V.got? : V → Option V
  | .unset => Option.none
  | v => some v
noncomputable def V.flat? : V → Option V
  | .unset => Option.none
  | .meth _ => Option.none
  | .self => Option.none
  | v => some v
noncomputable def V.isN? : V → Option Bool
  | .none => some true
  | .int _ => some false
  | .meth _ => some false
  | .memr => some false
  | _ => Option.none
noncomputable def V.isNF? : V → Option Bool
  | .none => some true
  | .int _ => some false
  | _ => Option.none
theorem V.int?_of {v : V} {i : Int} (h : v.int? = some i) : v = .int i := by cases v <;> cases h; rfl
theorem V.meth?_of {v : V} {i : Nat} (h : v.meth? = some i) : v = .meth i := by cases v <;> cases h; rfl
theorem V.got?_of {v u : V} (h : v.got? = some u) : v = u ∧ v ≠ .unset := by cases v <;> cases h <;> exact ⟨rfl, fun h => nomatch h⟩
noncomputable def onI (o : Option (V × M)) (f : Int → M → Option β) : Option β := o.bind fun r => r.1.int?.bind fun i => f i r.2
theorem onI_of {o : Option (V × M)} {f : Int → M → Option β} {r : β} (h : onI o f = some r) : ∃ k σ, o = some (.int k, σ) ∧ f k σ = some r := by
  obtain ⟨⟨v, σ⟩, e, h⟩ := Option.bind_eq_some_iff.mp h
  obtain ⟨i, e', h⟩ := Option.bind_eq_some_iff.mp h
  cases V.int?_of e'
  exact ⟨i, σ, e, h⟩
theorem cond_of {b : Bool} {o : Option β} {r : β} (h : cond b o Option.none = some r) : b = true ∧ o = some r := by cases b; cases h; exact ⟨rfl, h⟩
theorem ite_of {p : Prop} [Decidable p] {o : Option β} {r : β} (h : (if p then o else Option.none) = some r) : p ∧ o = some r := by
  by_cases q : p
  · rw [if_pos q] at h; exact ⟨q, h⟩
  · rw [if_neg q] at h; cases h
theorem bind_of {α : Type} {o : Option α} {f : α → Option β} {r : β} (h : o.bind f = some r) : ∃ a, o = some a ∧ f a = some r := Option.bind_eq_some_iff.mp h
theorem and_el {a b : Bool} {K : Prop} (h : (a && b) = true) (k : a = true → b = true → K) : K := k (Bool.and_eq_true_iff.mp h).1 (Bool.and_eq_true_iff.mp h).2
theorem bind_el {α : Type} {o : Option α} {f : α → Option β} {r : β} {K : Prop} (h : o.bind f = some r) (k : ∀ a, o = some a → f a = some r → K) : K := let ⟨a, h1, h2⟩ := bind_of h; k a h1 h2
theorem map_of {α : Type} {o : Option α} {f : α → β} {r : β} (h : o.map f = some r) : ∃ a, o = some a ∧ f a = r := Option.map_eq_some_iff.mp h
theorem map_el {α : Type} {o : Option α} {f : α → β} {r : β} {K : Prop} (h : o.map f = some r) (k : ∀ a, o = some a → f a = r → K) : K := let ⟨a, h1, h2⟩ := map_of h; k a h1 h2
end

section
variable (c : Cls) (cf : Nat → List V → M → Option (V × M)) (ρ : Loc)
noncomputable def evE : E → M → Option (V × M)
  | .int i, σ => some (.int i, σ)
  | .none, σ => some (.none, σ)
  | .var v, σ => (ρ.at v).map fun x => (x, σ)
  | .fld f, σ => ((σ.get f).got?).map fun v => (v, σ)
  | .cst k, σ => (c.csts[k]?).map fun x => (.int x.2, σ)
  | .mref m, σ => some (.meth m, σ)
  | .mem i, σ => cond σ.hm (onI (evE i σ) fun k σ' => (at? σ'.mem k).map fun x => (.int x, σ')) Option.none
  | .tab t i, σ => onI (evE i σ) fun k σ' => (c.tabs[t]?).bind fun l => (at? l.2 k).map fun x => (.int x, σ')
  | .bin op a b, σ => onI (evE a σ) fun i σ₁ => onI (evE b σ₁) fun j σ₂ => (op.ev i j).map fun r => (.int r, σ₂)
  | .inv a, σ => onI (evE a σ) fun i σ₁ => some (.int (Builtin.bitNot i), σ₁)
  | .cmp op a b, σ => onI (evE a σ) fun i σ₁ => onI (evE b σ₁) fun j σ₂ => some (.bool (op.ev i j), σ₂)
  | .isNone v, σ => (ρ.at v).bind fun u => u.isN?.map fun b => (.bool b, σ)
  | .isNoneF f, σ => (σ.get f).isNF?.map fun b => (.bool b, σ)
  | .txt, σ => some (.txt, σ)
  | .bool b, σ => some (.bool b, σ)
  | .stuck, _ => Option.none
  | .call0 m, σ => cf m [] σ
  | .call1 m a, σ => (evE a σ).bind fun r => cf m [r.1] r.2
  | .call2 m a b, σ => (evE a σ).bind fun r => (evE b r.2).bind fun r₂ => cf m [r.1, r₂.1] r₂.2
  | .callV v, σ => (ρ.at v).bind fun u => u.meth?.bind fun m => cf m [] σ
  | .callT i, σ => onI (evE i σ) fun k σ₁ => if 0 ≤ k then (c.instr[k.toNat]?).bind fun m => cf m [] σ₁ else Option.none
end
inductive Fl where
  | next
  | ret (v : V)
section
variable (c : Cls) (cf : Nat → List V → M → Option (V × M))
mutual
noncomputable def exS : S → Loc → M → Option (Fl × Loc × M)
  | .expr e, ρ, σ => (evE c cf ρ e σ).map fun r => (.next, ρ, r.2)
  | .asgV v e, ρ, σ => (evE c cf ρ e σ).bind fun r => if v < ρ.length then some (.next, ρ.set v (some r.1), r.2) else Option.none
  | .asgF f e, ρ, σ => (evE c cf ρ e σ).bind fun r => r.1.flat?.bind fun x => (r.2.set f x).map fun σ₂ => (.next, ρ, σ₂)
  | .asgM i e, ρ, σ => onI (evE c cf ρ e σ) fun x σ₁ => cond σ₁.hm (onI (evE c cf ρ i σ₁) fun k σ₂ => (putAt σ₂.mem k x).map fun l => (.next, ρ, { σ₂ with mem := l })) Option.none
  | .augV v op e, ρ, σ => (ρ.at v).bind fun u => u.int?.bind fun a => onI (evE c cf ρ e σ) fun b σ₁ => (op.ev a b).bind fun r => if v < ρ.length then some (.next, ρ.set v (some (.int r)), σ₁) else Option.none
  | .augF f op e, ρ, σ => (σ.get f).int?.bind fun a => onI (evE c cf ρ e σ) fun b σ₁ => (op.ev a b).bind fun r => (σ₁.set f (.int r)).map fun σ₂ => (.next, ρ, σ₂)
  | .ite t a b, ρ, σ => (evE c cf ρ t σ).bind fun r => (truth r.1).bind fun q => cond q (exSs a ρ r.2) (exSs b ρ r.2)
  | .ret e, ρ, σ => (evE c cf ρ e σ).map fun r => (.ret r.1, ρ, r.2)
  | .ret0, ρ, σ => some (.ret .none, ρ, σ)
  | .pass, ρ, σ => some (.next, ρ, σ)
noncomputable def exSs : Ss → Loc → M → Option (Fl × Loc × M)
  | .nil, ρ, σ => some (.next, ρ, σ)
  | .cons s r, ρ, σ => (exS s ρ σ).bind fun q => match q.1 with
    | .next => exSs r q.2.1 q.2.2
    | .ret v => some (.ret v, q.2)
end
end
noncomputable def Fl.out : Fl → V
  | .next => .none
  | .ret v => v
noncomputable def callM (c : Cls) : Nat → Nat → List V → M → Option (V × M)
  | 0, _, _, _ => Option.none
  | d + 1, m, args, σ => (c.P[m]?).bind fun md => if args.length + 1 = md.np then (exSs c (callM c d) md.body ((some V.self :: args.map some) ++ List.replicate (md.vars.length - md.np) Option.none) σ).map fun r => (r.1.out, r.2.2) else Option.none
noncomputable def BOp.op : BOp → Operator
  | .add => .Add | .sub => .Sub | .and => .BitAnd | .or => .BitOr | .xor => .BitXor | .shl => .LShift | .shr => .RShift
noncomputable def COp.op : COp → CmpOp
  | .eq => .Eq | .ne => .NotEq | .lt => .Lt | .le => .LtE | .gt => .Gt | .ge => .GtE
noncomputable def plainE : PySem.Expr → Bool
  | .Name .. => true | .Attribute .. => true | .Call .. => true | .BinOp .. => true | .Subscript .. => true | .UnaryOp .. => true | .Constant (.int _) _ _ => true | .Constant (.str _) _ _ => true | .Constant (.bool _) _ _ => true | .Constant .none _ _ => true
  | _ => false
noncomputable def o_Constant (x : PySem.Expr) (f : PySem.Const → Nat → Pos → Bool) : Bool := if h : x.ctorIdx = 19 then PySem.Expr.Constant.elim (motive_1 := fun _ => Bool) x h f else false
theorem o_Constant_elim {x : PySem.Expr} {f : PySem.Const → Nat → Pos → Bool} {P : PySem.Expr → Prop} (h : o_Constant x f = true) (k : ∀ a0 a1 a2, f a0 a1 a2 = true → P (.Constant a0 a1 a2)) : P x := by
  by_cases e : x.ctorIdx = 19
  · exact PySem.Expr.Constant.elim (motive_1 := fun x => o_Constant x f = true → P x) x e (fun a0 a1 a2 h => k a0 a1 a2 h) h
  · exact absurd ((dif_neg e).symm.trans h) Bool.false_ne_true
noncomputable def o_Name (x : PySem.Expr) (f : Str → Pos → Bool) : Bool := if h : x.ctorIdx = 23 then PySem.Expr.Name.elim (motive_1 := fun _ => Bool) x h f else false
theorem o_Name_elim {x : PySem.Expr} {f : Str → Pos → Bool} {P : PySem.Expr → Prop} (h : o_Name x f = true) (k : ∀ a0 a1, f a0 a1 = true → P (.Name a0 a1)) : P x := by
  by_cases e : x.ctorIdx = 23
  · exact PySem.Expr.Name.elim (motive_1 := fun x => o_Name x f = true → P x) x e (fun a0 a1 h => k a0 a1 h) h
  · exact absurd ((dif_neg e).symm.trans h) Bool.false_ne_true
noncomputable def o_Attribute (x : PySem.Expr) (f : PySem.Expr → Str → Pos → Bool) : Bool := if h : x.ctorIdx = 20 then PySem.Expr.Attribute.elim (motive_1 := fun _ => Bool) x h f else false
theorem o_Attribute_elim {x : PySem.Expr} {f : PySem.Expr → Str → Pos → Bool} {P : PySem.Expr → Prop} (h : o_Attribute x f = true) (k : ∀ a0 a1 a2, f a0 a1 a2 = true → P (.Attribute a0 a1 a2)) : P x := by
  by_cases e : x.ctorIdx = 20
  · exact PySem.Expr.Attribute.elim (motive_1 := fun x => o_Attribute x f = true → P x) x e (fun a0 a1 a2 h => k a0 a1 a2 h) h
  · exact absurd ((dif_neg e).symm.trans h) Bool.false_ne_true
noncomputable def o_Subscript (x : PySem.Expr) (f : PySem.Expr → PySem.Expr → Pos → Bool) : Bool := if h : x.ctorIdx = 21 then PySem.Expr.Subscript.elim (motive_1 := fun _ => Bool) x h f else false
theorem o_Subscript_elim {x : PySem.Expr} {f : PySem.Expr → PySem.Expr → Pos → Bool} {P : PySem.Expr → Prop} (h : o_Subscript x f = true) (k : ∀ a0 a1 a2, f a0 a1 a2 = true → P (.Subscript a0 a1 a2)) : P x := by
  by_cases e : x.ctorIdx = 21
  · exact PySem.Expr.Subscript.elim (motive_1 := fun x => o_Subscript x f = true → P x) x e (fun a0 a1 a2 h => k a0 a1 a2 h) h
  · exact absurd ((dif_neg e).symm.trans h) Bool.false_ne_true
noncomputable def o_BinOp (x : PySem.Expr) (f : PySem.Expr → Operator → PySem.Expr → Pos → Bool) : Bool := if h : x.ctorIdx = 2 then PySem.Expr.BinOp.elim (motive_1 := fun _ => Bool) x h f else false
theorem o_BinOp_elim {x : PySem.Expr} {f : PySem.Expr → Operator → PySem.Expr → Pos → Bool} {P : PySem.Expr → Prop} (h : o_BinOp x f = true) (k : ∀ a0 a1 a2 a3, f a0 a1 a2 a3 = true → P (.BinOp a0 a1 a2 a3)) : P x := by
  by_cases e : x.ctorIdx = 2
  · exact PySem.Expr.BinOp.elim (motive_1 := fun x => o_BinOp x f = true → P x) x e (fun a0 a1 a2 a3 h => k a0 a1 a2 a3 h) h
  · exact absurd ((dif_neg e).symm.trans h) Bool.false_ne_true
noncomputable def o_UnaryOp (x : PySem.Expr) (f : PySem.UnaryOp → PySem.Expr → Pos → Bool) : Bool := if h : x.ctorIdx = 3 then PySem.Expr.UnaryOp.elim (motive_1 := fun _ => Bool) x h f else false
theorem o_UnaryOp_elim {x : PySem.Expr} {f : PySem.UnaryOp → PySem.Expr → Pos → Bool} {P : PySem.Expr → Prop} (h : o_UnaryOp x f = true) (k : ∀ a0 a1 a2, f a0 a1 a2 = true → P (.UnaryOp a0 a1 a2)) : P x := by
  by_cases e : x.ctorIdx = 3
  · exact PySem.Expr.UnaryOp.elim (motive_1 := fun x => o_UnaryOp x f = true → P x) x e (fun a0 a1 a2 h => k a0 a1 a2 h) h
  · exact absurd ((dif_neg e).symm.trans h) Bool.false_ne_true
noncomputable def o_Compare (x : PySem.Expr) (f : PySem.Expr → (List CmpOp) → (List PySem.Expr) → Pos → Bool) : Bool := if h : x.ctorIdx = 15 then PySem.Expr.Compare.elim (motive_1 := fun _ => Bool) x h f else false
theorem o_Compare_elim {x : PySem.Expr} {f : PySem.Expr → (List CmpOp) → (List PySem.Expr) → Pos → Bool} {P : PySem.Expr → Prop} (h : o_Compare x f = true) (k : ∀ a0 a1 a2 a3, f a0 a1 a2 a3 = true → P (.Compare a0 a1 a2 a3)) : P x := by
  by_cases e : x.ctorIdx = 15
  · exact PySem.Expr.Compare.elim (motive_1 := fun x => o_Compare x f = true → P x) x e (fun a0 a1 a2 a3 h => k a0 a1 a2 a3 h) h
  · exact absurd ((dif_neg e).symm.trans h) Bool.false_ne_true
noncomputable def o_BoolOp (x : PySem.Expr) (f : PySem.BoolOp → (List PySem.Expr) → Pos → Bool) : Bool := if h : x.ctorIdx = 0 then PySem.Expr.BoolOp.elim (motive_1 := fun _ => Bool) x h f else false
theorem o_BoolOp_elim {x : PySem.Expr} {f : PySem.BoolOp → (List PySem.Expr) → Pos → Bool} {P : PySem.Expr → Prop} (h : o_BoolOp x f = true) (k : ∀ a0 a1 a2, f a0 a1 a2 = true → P (.BoolOp a0 a1 a2)) : P x := by
  by_cases e : x.ctorIdx = 0
  · exact PySem.Expr.BoolOp.elim (motive_1 := fun x => o_BoolOp x f = true → P x) x e (fun a0 a1 a2 h => k a0 a1 a2 h) h
  · exact absurd ((dif_neg e).symm.trans h) Bool.false_ne_true
noncomputable def o_IfExp (x : PySem.Expr) (f : PySem.Expr → PySem.Expr → PySem.Expr → Pos → Bool) : Bool := if h : x.ctorIdx = 5 then PySem.Expr.IfExp.elim (motive_1 := fun _ => Bool) x h f else false
noncomputable def o_Slice (x : PySem.Expr) (f : (Option PySem.Expr) → (Option PySem.Expr) → (Option PySem.Expr) → Pos → Bool) : Bool := if h : x.ctorIdx = 26 then PySem.Expr.Slice.elim (motive_1 := fun _ => Bool) x h f else false
theorem o_Slice_elim {x : PySem.Expr} {f : (Option PySem.Expr) → (Option PySem.Expr) → (Option PySem.Expr) → Pos → Bool} {P : PySem.Expr → Prop} (h : o_Slice x f = true) (k : ∀ a0 a1 a2 a3, f a0 a1 a2 a3 = true → P (.Slice a0 a1 a2 a3)) : P x := by
  by_cases e : x.ctorIdx = 26
  · exact PySem.Expr.Slice.elim (motive_1 := fun x => o_Slice x f = true → P x) x e (fun a0 a1 a2 a3 h => k a0 a1 a2 a3 h) h
  · exact absurd ((dif_neg e).symm.trans h) Bool.false_ne_true
noncomputable def o_Call (x : PySem.Expr) (f : PySem.Expr → (List PySem.Expr) → (List Keyword) → Pos → Bool) : Bool := if h : x.ctorIdx = 16 then PySem.Expr.Call.elim (motive_1 := fun _ => Bool) x h f else false
theorem o_Call_elim {x : PySem.Expr} {f : PySem.Expr → (List PySem.Expr) → (List Keyword) → Pos → Bool} {P : PySem.Expr → Prop} (h : o_Call x f = true) (k : ∀ a0 a1 a2 a3, f a0 a1 a2 a3 = true → P (.Call a0 a1 a2 a3)) : P x := by
  by_cases e : x.ctorIdx = 16
  · exact PySem.Expr.Call.elim (motive_1 := fun x => o_Call x f = true → P x) x e (fun a0 a1 a2 a3 h => k a0 a1 a2 a3 h) h
  · exact absurd ((dif_neg e).symm.trans h) Bool.false_ne_true
noncomputable def o_List (x : PySem.Expr) (f : (List PySem.Expr) → Pos → Bool) : Bool := if h : x.ctorIdx = 24 then PySem.Expr.List.elim (motive_1 := fun _ => Bool) x h f else false
theorem o_List_elim {x : PySem.Expr} {f : (List PySem.Expr) → Pos → Bool} {P : PySem.Expr → Prop} (h : o_List x f = true) (k : ∀ a0 a1, f a0 a1 = true → P (.List a0 a1)) : P x := by
  by_cases e : x.ctorIdx = 24
  · exact PySem.Expr.List.elim (motive_1 := fun x => o_List x f = true → P x) x e (fun a0 a1 h => k a0 a1 h) h
  · exact absurd ((dif_neg e).symm.trans h) Bool.false_ne_true
noncomputable def o_Tuple (x : PySem.Expr) (f : (List PySem.Expr) → Nat → Pos → Bool) : Bool := if h : x.ctorIdx = 25 then PySem.Expr.Tuple.elim (motive_1 := fun _ => Bool) x h f else false
theorem o_Tuple_elim {x : PySem.Expr} {f : (List PySem.Expr) → Nat → Pos → Bool} {P : PySem.Expr → Prop} (h : o_Tuple x f = true) (k : ∀ a0 a1 a2, f a0 a1 a2 = true → P (.Tuple a0 a1 a2)) : P x := by
  by_cases e : x.ctorIdx = 25
  · exact PySem.Expr.Tuple.elim (motive_1 := fun x => o_Tuple x f = true → P x) x e (fun a0 a1 a2 h => k a0 a1 a2 h) h
  · exact absurd ((dif_neg e).symm.trans h) Bool.false_ne_true
noncomputable def o_ListComp (x : PySem.Expr) (f : PySem.Expr → (List Comprehension) → Scope → Pos → Bool) : Bool := if h : x.ctorIdx = 8 then PySem.Expr.ListComp.elim (motive_1 := fun _ => Bool) x h f else false
theorem o_ListComp_elim {x : PySem.Expr} {f : PySem.Expr → (List Comprehension) → Scope → Pos → Bool} {P : PySem.Expr → Prop} (h : o_ListComp x f = true) (k : ∀ a0 a1 a2 a3, f a0 a1 a2 a3 = true → P (.ListComp a0 a1 a2 a3)) : P x := by
  by_cases e : x.ctorIdx = 8
  · exact PySem.Expr.ListComp.elim (motive_1 := fun x => o_ListComp x f = true → P x) x e (fun a0 a1 a2 a3 h => k a0 a1 a2 a3 h) h
  · exact absurd ((dif_neg e).symm.trans h) Bool.false_ne_true
noncomputable def o_int (x : PySem.Const) (f : Int → Bool) : Bool := if h : x.ctorIdx = 2 then PySem.Const.int.elim (motive := fun _ => Bool) x h f else false
theorem o_int_elim {x : PySem.Const} {f : Int → Bool} {P : PySem.Const → Prop} (h : o_int x f = true) (k : ∀ a0, f a0 = true → P (.int a0)) : P x := by
  by_cases e : x.ctorIdx = 2
  · exact PySem.Const.int.elim (motive := fun x => o_int x f = true → P x) x e (fun a0 h => k a0 h) h
  · exact absurd ((dif_neg e).symm.trans h) Bool.false_ne_true
noncomputable def o_bool (x : PySem.Const) (f : Bool → Bool) : Bool := if h : x.ctorIdx = 1 then PySem.Const.bool.elim (motive := fun _ => Bool) x h f else false
theorem o_bool_elim {x : PySem.Const} {f : Bool → Bool} {P : PySem.Const → Prop} (h : o_bool x f = true) (k : ∀ a0, f a0 = true → P (.bool a0)) : P x := by
  by_cases e : x.ctorIdx = 1
  · exact PySem.Const.bool.elim (motive := fun x => o_bool x f = true → P x) x e (fun a0 h => k a0 h) h
  · exact absurd ((dif_neg e).symm.trans h) Bool.false_ne_true
noncomputable def o_str (x : PySem.Const) (f : Str → Bool) : Bool := if h : x.ctorIdx = 5 then PySem.Const.str.elim (motive := fun _ => Bool) x h f else false
theorem o_str_elim {x : PySem.Const} {f : Str → Bool} {P : PySem.Const → Prop} (h : o_str x f = true) (k : ∀ a0, f a0 = true → P (.str a0)) : P x := by
  by_cases e : x.ctorIdx = 5
  · exact PySem.Const.str.elim (motive := fun x => o_str x f = true → P x) x e (fun a0 h => k a0 h) h
  · exact absurd ((dif_neg e).symm.trans h) Bool.false_ne_true
noncomputable def o_none (x : PySem.Const) (f : Bool) : Bool := if h : x.ctorIdx = 0 then PySem.Const.none.elim (motive := fun _ => Bool) x h f else false
theorem o_none_elim {x : PySem.Const} {f : Bool} {P : PySem.Const → Prop} (h : o_none x f = true) (k : f = true → P .none) : P x := by
  by_cases e : x.ctorIdx = 0
  · exact PySem.Const.none.elim (motive := fun x => o_none x f = true → P x) x e (fun h => k h) h
  · exact absurd ((dif_neg e).symm.trans h) Bool.false_ne_true
noncomputable def o_Expr (x : Stmt) (f : PySem.Expr → Pos → Bool) : Bool := if h : x.ctorIdx = 24 then PySem.Stmt.Expr.elim (motive_2 := fun _ => Bool) x h f else false
theorem o_Expr_elim {x : Stmt} {f : PySem.Expr → Pos → Bool} {P : Stmt → Prop} (h : o_Expr x f = true) (k : ∀ a0 a1, f a0 a1 = true → P (.Expr a0 a1)) : P x := by
  by_cases e : x.ctorIdx = 24
  · exact PySem.Stmt.Expr.elim (motive_2 := fun x => o_Expr x f = true → P x) x e (fun a0 a1 h => k a0 a1 h) h
  · exact absurd ((dif_neg e).symm.trans h) Bool.false_ne_true
noncomputable def o_Assign (x : Stmt) (f : (List PySem.Expr) → PySem.Expr → Pos → Bool) : Bool := if h : x.ctorIdx = 5 then PySem.Stmt.Assign.elim (motive_2 := fun _ => Bool) x h f else false
theorem o_Assign_elim {x : Stmt} {f : (List PySem.Expr) → PySem.Expr → Pos → Bool} {P : Stmt → Prop} (h : o_Assign x f = true) (k : ∀ a0 a1 a2, f a0 a1 a2 = true → P (.Assign a0 a1 a2)) : P x := by
  by_cases e : x.ctorIdx = 5
  · exact PySem.Stmt.Assign.elim (motive_2 := fun x => o_Assign x f = true → P x) x e (fun a0 a1 a2 h => k a0 a1 a2 h) h
  · exact absurd ((dif_neg e).symm.trans h) Bool.false_ne_true
noncomputable def o_AugAssign (x : Stmt) (f : PySem.Expr → Operator → PySem.Expr → Pos → Bool) : Bool := if h : x.ctorIdx = 7 then PySem.Stmt.AugAssign.elim (motive_2 := fun _ => Bool) x h f else false
theorem o_AugAssign_elim {x : Stmt} {f : PySem.Expr → Operator → PySem.Expr → Pos → Bool} {P : Stmt → Prop} (h : o_AugAssign x f = true) (k : ∀ a0 a1 a2 a3, f a0 a1 a2 a3 = true → P (.AugAssign a0 a1 a2 a3)) : P x := by
  by_cases e : x.ctorIdx = 7
  · exact PySem.Stmt.AugAssign.elim (motive_2 := fun x => o_AugAssign x f = true → P x) x e (fun a0 a1 a2 a3 h => k a0 a1 a2 a3 h) h
  · exact absurd ((dif_neg e).symm.trans h) Bool.false_ne_true
noncomputable def o_If (x : Stmt) (f : PySem.Expr → (List Stmt) → (List Stmt) → Pos → Bool) : Bool := if h : x.ctorIdx = 12 then PySem.Stmt.If.elim (motive_2 := fun _ => Bool) x h f else false
theorem o_If_elim {x : Stmt} {f : PySem.Expr → (List Stmt) → (List Stmt) → Pos → Bool} {P : Stmt → Prop} (h : o_If x f = true) (k : ∀ a0 a1 a2 a3, f a0 a1 a2 a3 = true → P (.If a0 a1 a2 a3)) : P x := by
  by_cases e : x.ctorIdx = 12
  · exact PySem.Stmt.If.elim (motive_2 := fun x => o_If x f = true → P x) x e (fun a0 a1 a2 a3 h => k a0 a1 a2 a3 h) h
  · exact absurd ((dif_neg e).symm.trans h) Bool.false_ne_true
noncomputable def o_For (x : Stmt) (f : PySem.Expr → PySem.Expr → (List Stmt) → (List Stmt) → Pos → Bool) : Bool := if h : x.ctorIdx = 9 then PySem.Stmt.For.elim (motive_2 := fun _ => Bool) x h f else false
theorem o_For_elim {x : Stmt} {f : PySem.Expr → PySem.Expr → (List Stmt) → (List Stmt) → Pos → Bool} {P : Stmt → Prop} (h : o_For x f = true) (k : ∀ a0 a1 a2 a3 a4, f a0 a1 a2 a3 a4 = true → P (.For a0 a1 a2 a3 a4)) : P x := by
  by_cases e : x.ctorIdx = 9
  · exact PySem.Stmt.For.elim (motive_2 := fun x => o_For x f = true → P x) x e (fun a0 a1 a2 a3 a4 h => k a0 a1 a2 a3 a4 h) h
  · exact absurd ((dif_neg e).symm.trans h) Bool.false_ne_true
noncomputable def o_While (x : Stmt) (f : PySem.Expr → (List Stmt) → (List Stmt) → Pos → Bool) : Bool := if h : x.ctorIdx = 11 then PySem.Stmt.While.elim (motive_2 := fun _ => Bool) x h f else false
noncomputable def o_Return (x : Stmt) (f : (Option PySem.Expr) → Pos → Bool) : Bool := if h : x.ctorIdx = 3 then PySem.Stmt.Return.elim (motive_2 := fun _ => Bool) x h f else false
theorem o_Return_elim {x : Stmt} {f : (Option PySem.Expr) → Pos → Bool} {P : Stmt → Prop} (h : o_Return x f = true) (k : ∀ a0 a1, f a0 a1 = true → P (.Return a0 a1)) : P x := by
  by_cases e : x.ctorIdx = 3
  · exact PySem.Stmt.Return.elim (motive_2 := fun x => o_Return x f = true → P x) x e (fun a0 a1 h => k a0 a1 h) h
  · exact absurd ((dif_neg e).symm.trans h) Bool.false_ne_true
noncomputable def o_Break (x : Stmt) (f : Pos → Bool) : Bool := if h : x.ctorIdx = 26 then PySem.Stmt.Break.elim (motive_2 := fun _ => Bool) x h f else false
theorem o_Break_elim {x : Stmt} {f : Pos → Bool} {P : Stmt → Prop} (h : o_Break x f = true) (k : ∀ a0, f a0 = true → P (.Break a0)) : P x := by
  by_cases e : x.ctorIdx = 26
  · exact PySem.Stmt.Break.elim (motive_2 := fun x => o_Break x f = true → P x) x e (fun a0 h => k a0 h) h
  · exact absurd ((dif_neg e).symm.trans h) Bool.false_ne_true
noncomputable def o_Pass (x : Stmt) (f : Pos → Bool) : Bool := if h : x.ctorIdx = 25 then PySem.Stmt.Pass.elim (motive_2 := fun _ => Bool) x h f else false
theorem o_Pass_elim {x : Stmt} {f : Pos → Bool} {P : Stmt → Prop} (h : o_Pass x f = true) (k : ∀ a0, f a0 = true → P (.Pass a0)) : P x := by
  by_cases e : x.ctorIdx = 25
  · exact PySem.Stmt.Pass.elim (motive_2 := fun x => o_Pass x f = true → P x) x e (fun a0 h => k a0 h) h
  · exact absurd ((dif_neg e).symm.trans h) Bool.false_ne_true
noncomputable def o_nil {α : Type} (x : List α) (f : Bool) : Bool := match x with
  | [] => f
  | _ => false
theorem o_nil_elim {α : Type} {x : List α} {f : Bool} {P : List α → Prop} (h : o_nil x f = true) (k : f = true → P []) : P x := by
  cases x with
  | nil => exact k h
  | cons _ _ => exact absurd h Bool.false_ne_true
noncomputable def o_cons {α : Type} (x : List α) (f : α → List α → Bool) : Bool := match x with
  | a :: l => f a l
  | _ => false
theorem o_cons_elim {α : Type} {x : List α} {f : α → List α → Bool} {P : List α → Prop} (h : o_cons x f = true) (k : ∀ a l, f a l = true → P (a :: l)) : P x := by
  cases x with
  | nil => exact absurd h Bool.false_ne_true
  | cons a l => exact k a l h
noncomputable def o_some {α : Type} (x : Option α) (f : α → Bool) : Bool := match x with
  | some a => f a
  | _ => false
theorem o_some_elim {α : Type} {x : Option α} {f : α → Bool} {P : Option α → Prop} (h : o_some x f = true) (k : ∀ a, f a = true → P (some a)) : P x := by
  cases x with
  | none => exact absurd h Bool.false_ne_true
  | some a => exact k a h
noncomputable def o_non {α : Type} (x : Option α) (f : Bool) : Bool := match x with
  | Option.none => f
  | _ => false
theorem o_non_elim {α : Type} {x : Option α} {f : Bool} {P : Option α → Prop} (h : o_non x f = true) (k : f = true → P Option.none) : P x := by
  cases x with
  | none => exact k h
  | some a => exact absurd h Bool.false_ne_true
noncomputable def o_G (x : Comprehension) (f : PySem.Expr → PySem.Expr → List PySem.Expr → Int → Bool) : Bool := match x with
  | ⟨a, b, c, d⟩ => f a b c d
theorem o_G_elim {x : Comprehension} {f : PySem.Expr → PySem.Expr → List PySem.Expr → Int → Bool} {P : Comprehension → Prop} (h : o_G x f = true) (k : ∀ a b c d, f a b c d = true → P ⟨a, b, c, d⟩) : P x := by
  cases x
  exact k _ _ _ _ h
noncomputable def o_K (x : Keyword) (f : Option Str → PySem.Expr → Pos → Bool) : Bool := match x with
  | ⟨a, b, c⟩ => f a b c
theorem o_K_elim {x : Keyword} {f : Option Str → PySem.Expr → Pos → Bool} {P : Keyword → Prop} (h : o_K x f = true) (k : ∀ a b c, f a b c = true → P ⟨a, b, c⟩) : P x := by
  cases x
  exact k _ _ _ h
noncomputable def isSelf (e : PySem.Expr) : Bool := o_Name e fun n _ => n == ("self" : Str)
section
variable (c : Cls) (vars : List Str)
noncomputable def isVar (v : Nat) (n : Str) : Bool := vars[v]? == some n
noncomputable def isMeth (m : Nat) (n : Str) : Bool := match c.P[m]? with | some md => md.nm == n | Option.none => false
noncomputable def trE : E → PySem.Expr → Bool
  | .int i, x₀ => o_Constant x₀ fun z1 z2 z3 => o_int z1 fun j => i == j
  | .none, x₀ => o_Constant x₀ fun z1 z2 z3 => o_none z1 (true)
  | .var v, x₀ => o_Name x₀ fun n z1 => isVar vars v n
  | .fld f, x₀ => o_Attribute x₀ fun b n z1 => isSelf b && f.nm == n
  | .cst k, x₀ => o_Attribute x₀ fun b n z1 => isSelf b && (match c.csts[k]? with | some x => x.1 == n | Option.none => false)
  | .mref m, x₀ => o_Attribute x₀ fun b n z1 => isSelf b && isMeth c m n
  | .mem i, x₀ => o_Subscript x₀ fun z1 e z2 => o_Attribute z1 fun b n z3 => isSelf b && (n == ("memory" : Str)) && plainE e && trE i e
  | .tab t i, x₀ => o_Subscript x₀ fun z1 e z2 => o_Attribute z1 fun b n z3 => isSelf b && (match c.tabs[t]? with | some x => x.1 == n | Option.none => false) && plainE e && trE i e
  | .bin op a b, x₀ => o_BinOp x₀ fun l o r z1 => o == op.op && trE a l && trE b r
  | .inv a, x₀ => o_UnaryOp x₀ fun o e z1 => o == .Invert && trE a e
  | .cmp op a b, x₀ => o_Compare x₀ fun l z1 z2 z3 => o_cons z1 fun o z4 => o_nil z4 (o_cons z2 fun r z5 => o_nil z5 (o == op.op && plainE r && trE a l && trE b r))
  | .isNone v, x₀ => o_Compare x₀ fun z1 z2 z3 z4 => o_Name z1 fun n z5 => o_cons z2 fun o z6 => o_nil z6 (o_cons z3 fun z7 z8 => o_Constant z7 fun z9 z10 z11 => o_none z9 (o_nil z8 (o == .Is && isVar vars v n)))
  | .isNoneF f, x₀ => o_Compare x₀ fun z1 z2 z3 z4 => o_Attribute z1 fun b n z5 => o_cons z2 fun o z6 => o_nil z6 (o_cons z3 fun z7 z8 => o_Constant z7 fun z9 z10 z11 => o_none z9 (o_nil z8 (o == .Is && isSelf b && f.nm == n)))
  | .txt, x₀ => o_Constant x₀ fun z1 z2 z3 => o_str z1 fun z4 => true
  | .bool b, x₀ => o_Constant x₀ fun z1 z2 z3 => o_bool z1 fun d => b == d
  | .stuck, _ => true
  | .call0 m, x₀ => o_Call x₀ fun z1 z2 z3 p => o_Attribute z1 fun b n ap => o_nil z2 (o_nil z3 (isSelf b && isMeth c m n && ap.endLine == p.line))
  | .call1 m a, x₀ => o_Call x₀ fun z1 z2 z3 p => o_Attribute z1 fun b n ap => o_cons z2 fun e z4 => o_nil z4 (o_nil z3 (isSelf b && isMeth c m n && ap.endLine == p.line && plainE e && trE a e))
  | .call2 m a d, x₀ => o_Call x₀ fun z1 z2 z3 p => o_Attribute z1 fun b n ap => o_cons z2 fun e z4 => o_cons z4 fun f z5 => o_nil z5 (o_nil z3 (isSelf b && isMeth c m n && ap.endLine == p.line && plainE e && plainE f && trE a e && trE d f))
  | .callV v, x₀ => o_Call x₀ fun z1 z2 z3 z4 => o_Name z1 fun n z5 => o_nil z2 (o_nil z3 (isVar vars v n))
  | .callT i, x₀ => o_Call x₀ fun z1 z2 z3 z4 => o_Subscript z1 fun z5 e z6 => o_Attribute z5 fun b n z7 => o_cons z2 fun z8 z9 => o_Name z8 fun s z10 => o_nil z9 (o_nil z3 (isSelf b && (n == c.instrN) && plainE e && trE i e && (s == ("self" : Str))))
noncomputable def cmpE : E → Bool
  | .cmp _ _ _ => true
  | .isNone _ => true
  | .isNoneF _ => true
  | _ => false
noncomputable def plainT : PySem.Expr → Bool
  | .Name .. => true | .Attribute .. => true | .Call .. => true | .BinOp .. => true | .Subscript .. => true | .Constant .. => true
  | _ => false
mutual
noncomputable def trS : S → Stmt → Bool
  | .expr e, x₀ => o_Expr x₀ fun x z1 => plainE x && trE c vars e x
  | .asgV v e, x₀ => o_Assign x₀ fun z1 x z2 => o_cons z1 fun z3 z4 => o_Name z3 fun n z5 => o_nil z4 (v != 0 && isVar vars v n && plainE x && trE c vars e x)
  | .asgF f e, x₀ => o_Assign x₀ fun z1 x z2 => o_cons z1 fun z3 z4 => o_Attribute z3 fun b n z5 => o_nil z4 (isSelf b && f.nm == n && plainE x && trE c vars e x)
  | .asgM i e, x₀ => o_Assign x₀ fun z1 y z2 => o_cons z1 fun z3 z4 => o_Subscript z3 fun z5 x z6 => o_Attribute z5 fun b n z7 => o_nil z4 (isSelf b && (n == ("memory" : Str)) && plainE x && plainE y && trE c vars i x && trE c vars e y)
  | .augV v op e, x₀ => o_AugAssign x₀ fun z1 o x z2 => o_Name z1 fun n z3 => v != 0 && isVar vars v n && o == op.op && trE c vars e x
  | .augF f op e, x₀ => o_AugAssign x₀ fun z1 o x z2 => o_Attribute z1 fun b n z3 => isSelf b && f.nm == n && o == op.op && trE c vars e x
  | .ite t a b, x₀ => o_If x₀ fun x l r z1 => (cmpE t || plainT x) && trE c vars t x && trSs a l && trSs b r
  | .ret e, x₀ => o_Return x₀ fun z1 z2 => o_some z1 fun x => trE c vars e x
  | .ret0, x₀ => o_Return x₀ fun z1 z2 => o_non z1 (true)
  | .pass, x₀ => o_Pass x₀ fun z1 => true
noncomputable def trSs : Ss → List Stmt → Bool
  | .nil, [] => true
  | .cons s r, x :: l => trS s x && trSs r l
  | _, _ => false
end
end
section
variable {c : Cls} {vars : List Str}
theorem inv_trE_int {i : Int} {x₀ : PySem.Expr} (h : trE c vars (.int i) x₀ = true) : ∃ j y1 y2, x₀ = (.Constant (.int j) y1 y2) ∧ (i == j) = true := by
  apply o_Constant_elim h; intro z1 z2 z3 h
  apply o_int_elim h; intro j h
  exact ⟨_, _, _, rfl, h⟩
theorem inv_trE_none  {x₀ : PySem.Expr} (h : trE c vars .none x₀ = true) : ∃ y1 y2, x₀ = (.Constant (.none) y1 y2) ∧ (true) = true := by
  apply o_Constant_elim h; intro z1 z2 z3 h
  apply o_none_elim h; intro h
  exact ⟨_, _, rfl, h⟩
theorem inv_trE_var {v : Nat} {x₀ : PySem.Expr} (h : trE c vars (.var v) x₀ = true) : ∃ n y1, x₀ = (.Name n y1) ∧ (isVar vars v n) = true := by
  apply o_Name_elim h; intro n z1 h
  exact ⟨_, _, rfl, h⟩
theorem inv_trE_fld {f : Fld} {x₀ : PySem.Expr} (h : trE c vars (.fld f) x₀ = true) : ∃ b n y1, x₀ = (.Attribute b n y1) ∧ (isSelf b && f.nm == n) = true := by
  apply o_Attribute_elim h; intro b n z1 h
  exact ⟨_, _, _, rfl, h⟩
theorem inv_trE_cst {k : Nat} {x₀ : PySem.Expr} (h : trE c vars (.cst k) x₀ = true) : ∃ b n y1, x₀ = (.Attribute b n y1) ∧ (isSelf b && (match c.csts[k]? with | some x => x.1 == n | Option.none => false)) = true := by
  apply o_Attribute_elim h; intro b n z1 h
  exact ⟨_, _, _, rfl, h⟩
theorem inv_trE_mref {m : Nat} {x₀ : PySem.Expr} (h : trE c vars (.mref m) x₀ = true) : ∃ b n y1, x₀ = (.Attribute b n y1) ∧ (isSelf b && isMeth c m n) = true := by
  apply o_Attribute_elim h; intro b n z1 h
  exact ⟨_, _, _, rfl, h⟩
theorem inv_trE_mem {i : E} {x₀ : PySem.Expr} (h : trE c vars (.mem i) x₀ = true) : ∃ b n y1 e y2, x₀ = (.Subscript (.Attribute b n y1) e y2) ∧ (isSelf b && (n == ("memory" : Str)) && plainE e && trE c vars i e) = true := by
  apply o_Subscript_elim h; intro z1 e z2 h
  apply o_Attribute_elim h; intro b n z3 h
  exact ⟨_, _, _, _, _, rfl, h⟩
theorem inv_trE_tab {t : Nat} {i : E} {x₀ : PySem.Expr} (h : trE c vars (.tab t i) x₀ = true) : ∃ b n y1 e y2, x₀ = (.Subscript (.Attribute b n y1) e y2) ∧ (isSelf b && (match c.tabs[t]? with | some x => x.1 == n | Option.none => false) && plainE e && trE c vars i e) = true := by
  apply o_Subscript_elim h; intro z1 e z2 h
  apply o_Attribute_elim h; intro b n z3 h
  exact ⟨_, _, _, _, _, rfl, h⟩
theorem inv_trE_bin {op : BOp} {a : E} {b : E} {x₀ : PySem.Expr} (h : trE c vars (.bin op a b) x₀ = true) : ∃ l o r y1, x₀ = (.BinOp l o r y1) ∧ (o == op.op && trE c vars a l && trE c vars b r) = true := by
  apply o_BinOp_elim h; intro l o r z1 h
  exact ⟨_, _, _, _, rfl, h⟩
theorem inv_trE_inv {a : E} {x₀ : PySem.Expr} (h : trE c vars (.inv a) x₀ = true) : ∃ o e y1, x₀ = (.UnaryOp o e y1) ∧ (o == .Invert && trE c vars a e) = true := by
  apply o_UnaryOp_elim h; intro o e z1 h
  exact ⟨_, _, _, rfl, h⟩
theorem inv_trE_cmp {op : COp} {a : E} {b : E} {x₀ : PySem.Expr} (h : trE c vars (.cmp op a b) x₀ = true) : ∃ l o r y1, x₀ = (.Compare l (o :: []) (r :: []) y1) ∧ (o == op.op && plainE r && trE c vars a l && trE c vars b r) = true := by
  apply o_Compare_elim h; intro l z1 z2 z3 h
  apply o_cons_elim h; intro o z4 h
  apply o_nil_elim h; intro h
  apply o_cons_elim h; intro r z5 h
  apply o_nil_elim h; intro h
  exact ⟨_, _, _, _, rfl, h⟩
theorem inv_trE_isNone {v : Nat} {x₀ : PySem.Expr} (h : trE c vars (.isNone v) x₀ = true) : ∃ n y1 o y2 y3 y4, x₀ = (.Compare (.Name n y1) (o :: []) ((.Constant (.none) y2 y3) :: []) y4) ∧ (o == .Is && isVar vars v n) = true := by
  apply o_Compare_elim h; intro z1 z2 z3 z4 h
  apply o_Name_elim h; intro n z5 h
  apply o_cons_elim h; intro o z6 h
  apply o_nil_elim h; intro h
  apply o_cons_elim h; intro z7 z8 h
  apply o_Constant_elim h; intro z9 z10 z11 h
  apply o_none_elim h; intro h
  apply o_nil_elim h; intro h
  exact ⟨_, _, _, _, _, _, rfl, h⟩
theorem inv_trE_isNoneF {f : Fld} {x₀ : PySem.Expr} (h : trE c vars (.isNoneF f) x₀ = true) : ∃ b n y1 o y2 y3 y4, x₀ = (.Compare (.Attribute b n y1) (o :: []) ((.Constant (.none) y2 y3) :: []) y4) ∧ (o == .Is && isSelf b && f.nm == n) = true := by
  apply o_Compare_elim h; intro z1 z2 z3 z4 h
  apply o_Attribute_elim h; intro b n z5 h
  apply o_cons_elim h; intro o z6 h
  apply o_nil_elim h; intro h
  apply o_cons_elim h; intro z7 z8 h
  apply o_Constant_elim h; intro z9 z10 z11 h
  apply o_none_elim h; intro h
  apply o_nil_elim h; intro h
  exact ⟨_, _, _, _, _, _, _, rfl, h⟩
theorem inv_trE_txt  {x₀ : PySem.Expr} (h : trE c vars .txt x₀ = true) : ∃ y1 y2 y3, x₀ = (.Constant (.str y1) y2 y3) ∧ (true) = true := by
  apply o_Constant_elim h; intro z1 z2 z3 h
  apply o_str_elim h; intro z4 h
  exact ⟨_, _, _, rfl, h⟩
theorem inv_trE_bool {b : Bool} {x₀ : PySem.Expr} (h : trE c vars (.bool b) x₀ = true) : ∃ d y1 y2, x₀ = (.Constant (.bool d) y1 y2) ∧ (b == d) = true := by
  apply o_Constant_elim h; intro z1 z2 z3 h
  apply o_bool_elim h; intro d h
  exact ⟨_, _, _, rfl, h⟩
theorem inv_trE_call0 {m : Nat} {x₀ : PySem.Expr} (h : trE c vars (.call0 m) x₀ = true) : ∃ b n ap p, x₀ = (.Call (.Attribute b n ap) [] [] p) ∧ (isSelf b && isMeth c m n && ap.endLine == p.line) = true := by
  apply o_Call_elim h; intro z1 z2 z3 p h
  apply o_Attribute_elim h; intro b n ap h
  apply o_nil_elim h; intro h
  apply o_nil_elim h; intro h
  exact ⟨_, _, _, _, rfl, h⟩
theorem inv_trE_call1 {m : Nat} {a : E} {x₀ : PySem.Expr} (h : trE c vars (.call1 m a) x₀ = true) : ∃ b n ap e p, x₀ = (.Call (.Attribute b n ap) (e :: []) [] p) ∧ (isSelf b && isMeth c m n && ap.endLine == p.line && plainE e && trE c vars a e) = true := by
  apply o_Call_elim h; intro z1 z2 z3 p h
  apply o_Attribute_elim h; intro b n ap h
  apply o_cons_elim h; intro e z4 h
  apply o_nil_elim h; intro h
  apply o_nil_elim h; intro h
  exact ⟨_, _, _, _, _, rfl, h⟩
theorem inv_trE_call2 {m : Nat} {a : E} {d : E} {x₀ : PySem.Expr} (h : trE c vars (.call2 m a d) x₀ = true) : ∃ b n ap e f p, x₀ = (.Call (.Attribute b n ap) (e :: (f :: [])) [] p) ∧ (isSelf b && isMeth c m n && ap.endLine == p.line && plainE e && plainE f && trE c vars a e && trE c vars d f) = true := by
  apply o_Call_elim h; intro z1 z2 z3 p h
  apply o_Attribute_elim h; intro b n ap h
  apply o_cons_elim h; intro e z4 h
  apply o_cons_elim h; intro f z5 h
  apply o_nil_elim h; intro h
  apply o_nil_elim h; intro h
  exact ⟨_, _, _, _, _, _, rfl, h⟩
theorem inv_trE_callV {v : Nat} {x₀ : PySem.Expr} (h : trE c vars (.callV v) x₀ = true) : ∃ n y1 y2, x₀ = (.Call (.Name n y1) [] [] y2) ∧ (isVar vars v n) = true := by
  apply o_Call_elim h; intro z1 z2 z3 z4 h
  apply o_Name_elim h; intro n z5 h
  apply o_nil_elim h; intro h
  apply o_nil_elim h; intro h
  exact ⟨_, _, _, rfl, h⟩
theorem inv_trE_callT {i : E} {x₀ : PySem.Expr} (h : trE c vars (.callT i) x₀ = true) : ∃ b n y1 e y2 s y3 y4, x₀ = (.Call (.Subscript (.Attribute b n y1) e y2) ((.Name s y3) :: []) [] y4) ∧ (isSelf b && (n == c.instrN) && plainE e && trE c vars i e && (s == ("self" : Str))) = true := by
  apply o_Call_elim h; intro z1 z2 z3 z4 h
  apply o_Subscript_elim h; intro z5 e z6 h
  apply o_Attribute_elim h; intro b n z7 h
  apply o_cons_elim h; intro z8 z9 h
  apply o_Name_elim h; intro s z10 h
  apply o_nil_elim h; intro h
  apply o_nil_elim h; intro h
  exact ⟨_, _, _, _, _, _, _, _, rfl, h⟩
theorem inv_trS_expr {e : E} {x₀ : Stmt} (h : trS c vars (.expr e) x₀ = true) : ∃ x y1, x₀ = (.Expr x y1) ∧ (plainE x && trE c vars e x) = true := by
  apply o_Expr_elim h; intro x z1 h
  exact ⟨_, _, rfl, h⟩
theorem inv_trS_asgV {v : Nat} {e : E} {x₀ : Stmt} (h : trS c vars (.asgV v e) x₀ = true) : ∃ n y1 x y2, x₀ = (.Assign ((.Name n y1) :: []) x y2) ∧ (v != 0 && isVar vars v n && plainE x && trE c vars e x) = true := by
  apply o_Assign_elim h; intro z1 x z2 h
  apply o_cons_elim h; intro z3 z4 h
  apply o_Name_elim h; intro n z5 h
  apply o_nil_elim h; intro h
  exact ⟨_, _, _, _, rfl, h⟩
theorem inv_trS_asgF {f : Fld} {e : E} {x₀ : Stmt} (h : trS c vars (.asgF f e) x₀ = true) : ∃ b n y1 x y2, x₀ = (.Assign ((.Attribute b n y1) :: []) x y2) ∧ (isSelf b && f.nm == n && plainE x && trE c vars e x) = true := by
  apply o_Assign_elim h; intro z1 x z2 h
  apply o_cons_elim h; intro z3 z4 h
  apply o_Attribute_elim h; intro b n z5 h
  apply o_nil_elim h; intro h
  exact ⟨_, _, _, _, _, rfl, h⟩
theorem inv_trS_asgM {i : E} {e : E} {x₀ : Stmt} (h : trS c vars (.asgM i e) x₀ = true) : ∃ b n y1 x y2 y y3, x₀ = (.Assign ((.Subscript (.Attribute b n y1) x y2) :: []) y y3) ∧ (isSelf b && (n == ("memory" : Str)) && plainE x && plainE y && trE c vars i x && trE c vars e y) = true := by
  apply o_Assign_elim h; intro z1 y z2 h
  apply o_cons_elim h; intro z3 z4 h
  apply o_Subscript_elim h; intro z5 x z6 h
  apply o_Attribute_elim h; intro b n z7 h
  apply o_nil_elim h; intro h
  exact ⟨_, _, _, _, _, _, _, rfl, h⟩
theorem inv_trS_augV {v : Nat} {op : BOp} {e : E} {x₀ : Stmt} (h : trS c vars (.augV v op e) x₀ = true) : ∃ n y1 o x y2, x₀ = (.AugAssign (.Name n y1) o x y2) ∧ (v != 0 && isVar vars v n && o == op.op && trE c vars e x) = true := by
  apply o_AugAssign_elim h; intro z1 o x z2 h
  apply o_Name_elim h; intro n z3 h
  exact ⟨_, _, _, _, _, rfl, h⟩
theorem inv_trS_augF {f : Fld} {op : BOp} {e : E} {x₀ : Stmt} (h : trS c vars (.augF f op e) x₀ = true) : ∃ b n y1 o x y2, x₀ = (.AugAssign (.Attribute b n y1) o x y2) ∧ (isSelf b && f.nm == n && o == op.op && trE c vars e x) = true := by
  apply o_AugAssign_elim h; intro z1 o x z2 h
  apply o_Attribute_elim h; intro b n z3 h
  exact ⟨_, _, _, _, _, _, rfl, h⟩
theorem inv_trS_ite {t : E} {a : Ss} {b : Ss} {x₀ : Stmt} (h : trS c vars (.ite t a b) x₀ = true) : ∃ x l r y1, x₀ = (.If x l r y1) ∧ ((cmpE t || plainT x) && trE c vars t x && trSs c vars a l && trSs c vars b r) = true := by
  apply o_If_elim h; intro x l r z1 h
  exact ⟨_, _, _, _, rfl, h⟩
theorem inv_trS_ret {e : E} {x₀ : Stmt} (h : trS c vars (.ret e) x₀ = true) : ∃ x y1, x₀ = (.Return (some x) y1) ∧ (trE c vars e x) = true := by
  apply o_Return_elim h; intro z1 z2 h
  apply o_some_elim h; intro x h
  exact ⟨_, _, rfl, h⟩
theorem inv_trS_ret0  {x₀ : Stmt} (h : trS c vars .ret0 x₀ = true) : ∃ y1, x₀ = (.Return Option.none y1) ∧ (true) = true := by
  apply o_Return_elim h; intro z1 z2 h
  apply o_non_elim h; intro h
  exact ⟨_, rfl, h⟩
theorem inv_trS_pass  {x₀ : Stmt} (h : trS c vars .pass x₀ = true) : ∃ y1, x₀ = (.Pass y1) ∧ (true) = true := by
  apply o_Pass_elim h; intro z1 h
  exact ⟨_, rfl, h⟩
end
end Mine

end
section
open PySem PySem.W PyProof.Rows
set_option maxRecDepth 100000
set_option maxHeartbeats 1000000
namespace Mine
section
variable {prog : Program} {w : World} {A : Around} {E : Value → Shared → Prop} {s : Shared}
theorem set_plainL {l : Addr} {items : Array Value} {k : Int} {t : Tok} {v : Value} {Q : Unit → Shared → Prop} (hl : PlainL s.heap l items)
    (h0 : 0 ≤ k) (hfit : k < 2 ^ 63) (hn : k < items.size)
    (hQ : ∀ h', PlainL h' l (items.setIfInBounds k.toNat v) → Heap.SameBut l s.heap h' → Q () { s with heap := h' }) :
    wpAny (model prog w) A (setItem (.ref l) (.int k t) v) Q E s := by
  obtain ⟨o, n, ho, hc, hdn, hd⟩ := id hl
  have hT : s.TypeIs (.ref l) "list" := hl.isList.typeIs
  unfold setItem
  try with_reducible refine wpAny_holding ?_
  first | refine wpAny_bind (wpAny_pure ?_) | skip
  refine wpAny_bind (wpAny_sequenceKey hT (by decide) ?_)
  refine wpAny_bind (wpAny_callSpecial?_slot (name := Str.ofString "__setitem__") hT slot_list_setitem
    (wpAny_call_entry slot_list_setitem hT entry_list_setitem ?_ (args_list_setitem _ _ _)))
  show wpAny _ _ (Builtin.List.listSubscript? (.int k t) >>= _) _ _ s
  refine wpAny_bind (wpAny_listSubscript_int (fitsIndex_of h0 hfit) ?_)
  clear hfit
  obtain ⟨j, rfl⟩ := Int.eq_ofNat_of_zero_le h0
  have hj : j < items.size := by lia
  have hx' : items[j]? = some items[j] := Array.getElem?_eq_getElem hj
  show wpAny _ _ ((seqItemAt l j >>= fun r => pure (r.map (j, ·))) >>= _) _ _ s
  refine wpAny_bind (wpAny_bind (wpAny_seqItemAt ho hd (wpAny_pure ?_)))
  rw [hx']
  show wpAny _ _ (setSeqItemAt l j v >>= _) _ _ s
  obtain ⟨n', hd'⟩ := Obj.data_mapSeq hd (·.setIfInBounds j v)
  have hfin : PlainL (s.heap.update l (Obj.mapSeq (·.setIfInBounds j v))) l (items.setIfInBounds j v) := by
    refine ⟨_, n', Heap.get?_update_self _ ho (Obj.isFreed_of_seq hd'), (Obj.cls_mapSeq ..).trans hc, ?_, hd'⟩
    obtain ⟨c, d, dt, sl⟩ := o
    subst hd
    exact hdn
  refine wpAny_bind (wpAny_setSeqItemAt ho hd ?_)
  first
    | exact wpAny_bind (wpAny_pure (wpAny_pure ⟨.none, rfl, wpAny_pure (hQ _ hfin (Heap.SameBut.update ..))⟩))
    | exact wpAny_pure ⟨.none, rfl, wpAny_pure (hQ _ hfin (Heap.SameBut.update ..))⟩
end
end Mine

end
section
open PySem PySem.W PyProof.Rows
set_option maxRecDepth 100000
set_option maxHeartbeats 1000000
namespace Mine
section
variable {prog : Program} {w : World} {A : Around} {E : Value → Shared → Prop} {s : Shared}
noncomputable def slPut (items js : Array Value) (lo hi : Option Int) : Array Value :=
  items.extract 0 (sliceBounds lo hi none items.size).1.toNat ++ js ++ items.extract (max (sliceBounds lo hi none items.size).1 (sliceBounds lo hi none items.size).2.1).toNat items.size
end
end Mine

end
section
open PySem PySem.W PyProof.Rows
set_option maxRecDepth 100000
namespace Mine

structure Cx where
  prog : Program
  w : World
  c : Cls
  h₀ : Heap
  K : Frag
  C : Addr
  I : Addr
  D : Addr
  L : Addr
  fnA : Nat → Addr
  tabA : Nat → Addr
  insA : Addr

structure MethOk (x : Cx) (m : Nat) (md : MethD) : Prop where
  find : findIn x.K (.ref x.C) md.nm = some (some (.ref (x.fnA m)))
  notF : ∀ f : Fld, md.nm ≠ f.nm
  cop : copiedNames.contains md.nm = false
  nodup : md.vars.Nodup
  nodbg : ∀ v ∈ md.vars, (v == ("__debug__" : Str)) = false
  npLe : md.np ≤ md.vars.length
  self : md.vars[0]? = some ("self" : Str)
  fd : ∃ fd b, x.K.lookup (x.fnA m) = some ⟨.type "function", none, .func fd, #[]⟩ ∧ fd.body = .stmts b ∧ trSs x.c md.vars md.body b = true ∧ fd.scope.kind = .function ∧
    fd.scope.isGenerator = false ∧ fd.scope.isCoroutine = false ∧ (∀ y ∈ fd.scope.names, y.2 ≠ .cell) ∧ (∀ v ∈ md.vars, fd.scope.names.lookup v = some .local) ∧ codeIn x.K fd.code fd.qualname = true ∧
    ∀ (s : Shared) (vals : List Value), x.K.In s.heap → vals.length = md.np → BindsTo s fd ⟨vals, []⟩ ((md.vars.take md.np).zip vals)

structure Ok (x : Cx) : Prop where
  X : x.K.In x.h₀
  lim : x.h₀.NoLimit
  nD : x.h₀.get? x.D = none
  nL : x.h₀.get? x.L = none
  DL : x.D ≠ x.L
  ga : findIn x.K (.ref x.C) "__getattribute__" = some (some (.builtin "object.__getattribute__"))
  gg : findIn x.K (.ref x.C) "__getattr__" = some none
  sa : findIn x.K (.ref x.C) "__setattr__" = some (some (.builtin "object.__setattr__"))
  hd : hasDictIn x.K x.C = true
  po : plainOver x.K x.C = true
  fld : ∀ f : Fld, findIn x.K (.ref x.C) f.nm = some none
  cst : ∀ (k : Nat) (n : Str) (v : Int), x.c.csts[k]? = some (n, v) → (∃ t, findIn x.K (.ref x.C) n = some (some (.int v t))) ∧ copiedNames.contains n = false ∧ ∀ f : Fld, n ≠ f.nm
  tab : ∀ (k : Nat) (n : Str) (l : List Int), x.c.tabs[k]? = some (n, l) → findIn x.K (.ref x.C) n = some (some (.ref (x.tabA k))) ∧ copiedNames.contains n = false ∧ (∀ f : Fld, n ≠ f.nm) ∧
    ∃ vs, x.K.lookup (x.tabA k) = some { cls := .type "list", data := .seq vs.toArray } ∧ IntsAre vs l
  ins : findIn x.K (.ref x.C) x.c.instrN = some (some (.ref x.insA)) ∧ copiedNames.contains x.c.instrN = false ∧ (∀ f : Fld, x.c.instrN ≠ f.nm) ∧
    x.K.lookup x.insA = some { cls := .type "list", data := .seq (x.c.instr.map fun m => Value.ref (x.fnA m)).toArray }
  meth : ∀ (m : Nat) (md : MethD), x.c.P[m]? = some md → MethOk x m md

noncomputable def Rp (x : Cx) (h : Heap) : V → Value → Prop
  | .int i, v => ∃ t, v = .int i t
  | .bool b, v => v = .bool b
  | .none, v => v = .none
  | .self, v => v = .ref x.I
  | .meth m, v => ∃ a, v = .ref a ∧ h.get? a = some (methodObj (.ref (x.fnA m)) (.ref x.I))
  | .txt, v => ∃ s t, v = .str s t
  | .memr, v => v = .ref x.L
  | .unset, _ => False
noncomputable def FldR (x : Cx) (h : Heap) : V → Option Value → Prop
  | .unset, o => o = none
  | v, o => ∃ y, o = some y ∧ Rp x h v y
theorem FldR.of {x : Cx} {h : Heap} {v : V} {o : Option Value} (hu : v ≠ .unset) : FldR x h v o ↔ ∃ y, o = some y ∧ Rp x h v y := by
  cases v <;> first | exact Iff.rfl | exact absurd rfl hu
theorem FldR.map {x : Cx} {h h' : Heap} {v : V} {o : Option Value} (r : FldR x h v o) (k : ∀ y, Rp x h v y → Rp x h' v y) : FldR x h' v o := by
  by_cases hu : v = .unset
  · subst hu; exact r
  · obtain ⟨y, e, q⟩ := (FldR.of hu).mp r
    exact (FldR.of hu).mpr ⟨y, e, k y q⟩

structure Mr (x : Cx) (σ : M) (h : Heap) : Prop where
  stays : ∀ b o, x.h₀.get? b = some o → h.get? b = some o
  inst : h.get? x.I = some (instObj x.C x.D)
  ns : ∃ m, h.Ns1 x.D m ∧ (∀ f : Fld, FldR x h (σ.get f) (m f.nm)) ∧ ∀ n, (∀ f : Fld, n ≠ f.nm) → m n = none
  mem : ∃ items : Array Value, PlainL h x.L items ∧ IntsAre items.toList σ.mem
  sz : σ.mem.length < 2 ^ 62
structure Lr (x : Cx) (env : Env) (vars : List Str) (ρ : Loc) (h : Heap) : Prop where
  ns : ∃ m, h.Ns env.locals m ∧ ∀ (i : Nat) (n : Str) (v : V), vars[i]? = some n → ρ.at i = some v → ∃ y, m n = some y ∧ Rp x h v y
  nD : env.locals ≠ x.D
  nL : env.locals ≠ x.L
  nI : env.locals ≠ x.I
  nB : x.h₀.get? env.locals = none
  len : ρ.length = vars.length
  self : ρ.at 0 = some .self
structure EnvOk (env : Env) (vars : List Str) : Prop where
  kind : env.scope.kind = .function
  loc : ∀ v ∈ vars, env.kindOf v = some .local
  nodup : vars.Nodup
  nodbg : ∀ v ∈ vars, (v == ("__debug__" : Str)) = false
  self : vars[0]? = some ("self" : Str)

noncomputable def Away (ds : List Addr) (h h' : Heap) : Prop := ∀ b o, h.get? b = some o → b ∉ ds → h'.get? b = some o
theorem Away.rfl' {ds : List Addr} {h : Heap} : Away ds h h := fun _ _ e _ => e
theorem Away.trans {ds : List Addr} {h₁ h₂ h₃ : Heap} (a : Away ds h₁ h₂) (b : Away ds h₂ h₃) : Away ds h₁ h₃ := fun c o e n => b c o (a c o e n) n
theorem Away.mono {ds es : List Addr} {h h' : Heap} (a : Away ds h h') (s : ∀ b, b ∈ ds → b ∈ es) : Away es h h' := fun c o e n => a c o e fun q => n (s c q)
noncomputable def Kp (ds : List Addr) (s s' : Shared) : Prop := ∃ h' t', s' = { s with heap := h', toks := t' } ∧ Away ds s.heap h'
theorem Kp.refl {ds : List Addr} {s : Shared} : Kp ds s s := ⟨s.heap, s.toks, rfl, .rfl'⟩
theorem Kp.trans {ds : List Addr} {s₁ s₂ s₃ : Shared} (a : Kp ds s₁ s₂) (b : Kp ds s₂ s₃) : Kp ds s₁ s₃ := by
  obtain ⟨h, t, rfl, a⟩ := a
  obtain ⟨h', t', rfl, b⟩ := b
  exact ⟨h', t', rfl, a.trans b⟩
theorem Kp.away {ds : List Addr} {s s' : Shared} (k : Kp ds s s') : Away ds s.heap s'.heap := by obtain ⟨_, _, rfl, a⟩ := k; exact a
theorem Kp.mono {ds es : List Addr} {s s' : Shared} (k : Kp ds s s') (h : ∀ b, b ∈ ds → b ∈ es) : Kp es s s' := by obtain ⟨h', t', e, a⟩ := k; exact ⟨h', t', e, a.mono h⟩
theorem Kp.tok {ds : List Addr} {s : Shared} {t : Nat} : Kp ds s { s with toks := t } := ⟨s.heap, t, rfl, .rfl'⟩

section
variable {x : Cx} {σ : M} {h h' : Heap} {env : Env} {vars : List Str} {ρ : Loc}
theorem ns_kind {a : Addr} {m : Str → Option Value} (n : h.Ns a m) : ∃ o es ep, h.get? a = some o ∧ o.data = .dict es ep := by obtain ⟨o, es, ep, e, d, _⟩ := n; exact ⟨o, es, ep, e, d⟩
theorem Mr.ne_meth (R : Mr x σ h) {a : Addr} {f s : Value} (e : h.get? a = some (methodObj f s)) : a ∉ [x.D, x.L] := by
  intro q
  obtain ⟨m, n, _⟩ := R.ns
  obtain ⟨o, es, ep, e', d⟩ := ns_kind n.ns
  obtain ⟨its, ⟨o2, k, e2, _, _, d2⟩, _⟩ := R.mem
  rcases List.mem_cons.mp q with q | q
  · subst q; rw [e] at e'; cases e'; cases d
  · have := List.mem_singleton.mp q; subst this; rw [e] at e2; cases e2; cases d2
theorem Rp.keeps {v : V} {y : Value} (R : Mr x σ h) (r : Rp x h v y) (k : Away [x.D, x.L] h h') : Rp x h' v y := by
  cases v <;> try exact r
  obtain ⟨a, e, g⟩ := r
  exact ⟨a, e, k a _ g (R.ne_meth g)⟩
theorem ns_keeps {a : Addr} {m : Str → Option Value} {ds : List Addr} (n : h.Ns a m) (k : Away ds h h') (q : a ∉ ds) : h'.Ns a m := by
  obtain ⟨o, es, ep, e, r⟩ := n
  exact ⟨o, es, ep, k a o e q, r⟩
theorem Lr.keeps (R : Mr x σ h) (l : Lr x env vars ρ h) (k : Away [x.D, x.L] h h') : Lr x env vars ρ h' := by
  obtain ⟨⟨m, n, r⟩, nD, nL, nI, nB, ln, sf⟩ := l
  refine ⟨⟨m, ns_keeps n k (by simp [nD, nL]), fun i nm v hi hv => ?_⟩, nD, nL, nI, nB, ln, sf⟩
  obtain ⟨y, e, q⟩ := r i nm v hi hv
  exact ⟨y, e, q.keeps R k⟩
theorem lookIn_ns {a : Addr} {m : Str → Option Value} (n : h.Ns a m) : ∃ o, h.get? a = some o ∧ ∀ name, lookIn name o = some (m name) := by
  obtain ⟨o, es, ep, e, d, sk, f⟩ := n
  refine ⟨o, e, fun name => ?_⟩
  unfold lookIn
  rw [d]
  dsimp only
  have q := f name
  unfold nsFind findBy at q
  rw [← Array.find?_toList] at q
  cases g : es.toList.find? (·.key.isStr name) with
  | some en => rw [g] at q; rw [← q]; rfl
  | none =>
    rw [g] at q
    rw [← q]
    have : es.toList.any (·.refKey) = false := by
      rw [List.any_eq_false]
      intro en hen
      obtain ⟨nm, t, ek⟩ := sk en (Array.mem_toList_iff.mp hen)
      simp [DictEntry.refKey, ek]
    dsimp only
    rw [this]; rfl
theorem Mr.instAt (R : Mr x σ h) : ∃ od, InstAt h x.I (instObj x.C x.D) x.C (some od) ∧ (∀ f : Fld, σ.get f ≠ .unset → ∃ v, lookIn f.nm od = some (some v) ∧ Rp x h (σ.get f) v) ∧ ∀ n, (∀ f : Fld, n ≠ f.nm) → lookIn n od = some none := by
  obtain ⟨m, n, r, z⟩ := R.ns
  obtain ⟨od, e, l⟩ := lookIn_ns n.ns
  refine ⟨od, ⟨R.inst, rfl, rfl, e⟩, fun f hu => ?_, fun n hn => ?_⟩
  · obtain ⟨v, q, rv⟩ := (FldR.of hu).mp (r f)
    exact ⟨v, by rw [l, q], rv⟩
  · rw [l, z n hn]
theorem Rp.handed {v : V} {y : Value} (r : Rp x h v y) : handedIn y = true := by
  cases v <;> first | exact r.elim | (obtain ⟨t, rfl⟩ := r; rfl) | (obtain rfl := r; rfl) | (obtain ⟨a, rfl, _⟩ := r; rfl) | (obtain ⟨s, t, rfl⟩ := r; rfl)
end

section
variable {x : Cx} (O : Ok x) {A : Around} {E' : Value → Shared → Prop} {s : Shared} {σ : M}
include O
theorem X' (R : Mr x σ s.heap) : x.K.In s.heap := fun b o e => R.stays _ _ (O.X b o e)
theorem get_fld (R : Mr x σ s.heap) (f : Fld) (hu : σ.get f ≠ .unset) {ex : Bool} {Q : Value → Shared → Prop} (h : ∀ y, Rp x s.heap (σ.get f) y → Q y { s with toks := s.toks + 1 }) :
    wpAny (model x.prog x.w) A (getAttr (.ref x.I) f.nm ex) Q E' s := by
  obtain ⟨od, Ia, fl, _⟩ := R.instAt
  obtain ⟨v, lv, rv⟩ := fl f hu
  exact get_value (X' O R) Ia O.ga (findObj_own O.hd (O.fld f) rfl lv) rv.handed (h v rv)
theorem get_cst (R : Mr x σ s.heap) {k : Nat} {n : Str} {v : Int} (hk : x.c.csts[k]? = some (n, v)) {ex : Bool} {Q : Value → Shared → Prop} (h : ∀ t, Q (.int v t) { s with toks := s.toks + 1 }) :
    wpAny (model x.prog x.w) A (getAttr (.ref x.I) n ex) Q E' s := by
  obtain ⟨od, Ia, _, no⟩ := R.instAt
  obtain ⟨⟨t, ft⟩, cp, nf⟩ := O.cst k n v hk
  refine get_value (v := .int v t) (X' O R) Ia O.ga (findObj_cls O.hd ft ?_ rfl cp (no n nf)) rfl (h t)
  show fastLookup "int" "__get__" = some none
  decide +kernel
theorem get_lst (R : Mr x σ s.heap) {n : Str} {a : Addr} {vs : List Value} (ha : findIn x.K (.ref x.C) n = some (some (.ref a))) (hk : x.K.lookup a = some { cls := .type "list", data := .seq vs.toArray }) (cp : copiedNames.contains n = false) (nf : ∀ f : Fld, n ≠ f.nm)
    {ex : Bool} {Q : Value → Shared → Prop} (h : Q (.ref a) { s with toks := s.toks + 1 }) : wpAny (model x.prog x.w) A (getAttr (.ref x.I) n ex) Q E' s := by
  obtain ⟨od, Ia, _, no⟩ := R.instAt
  refine get_value (v := .ref a) (X' O R) Ia O.ga (findObj_cls O.hd ha ?_ rfl cp (no n nf)) rfl h
  show ((x.K.lookup a).map (·.cls)).bind (fun ty => findIn x.K ty "__get__") = some none
  rw [hk]
  show fastLookup "list" "__get__" = some none
  decide +kernel
omit O in
theorem fn_special {f : Addr} {fd : FuncData} (hk : x.K.lookup f = some ⟨.type "function", none, .func fd, #[]⟩) : typeIn x.K (.ref f) = some (.type "function") ∧ specialIn x.K (.ref f) "__get__" = some (some (.builtin "function.__get__")) ∧ takesIn x.K (.ref f) = some false := by
  have t : typeIn x.K (.ref f) = some (.type "function") := by show (x.K.lookup f).map (·.cls) = _; rw [hk]; rfl
  have sp : ∀ n, specialIn x.K (.ref f) n = fastLookup "function" n := fun n => by unfold specialIn; rw [t]; rfl
  refine ⟨t, ?_, ?_⟩
  · rw [sp]; decide +kernel
  · unfold takesIn
    rw [sp, sp]
    decide +kernel
theorem get_meth (R : Mr x σ s.heap) {m : Nat} {md : MethD} (hm : x.c.P[m]? = some md) {ex : Bool} {Q : Value → Shared → Prop}
    (h : Q (.ref s.heap.objs.size) { s with heap := s.heap.push (methodObj (.ref (x.fnA m)) (.ref x.I)), toks := s.toks + 1 }) : wpAny (model x.prog x.w) A (getAttr (.ref x.I) md.nm ex) Q E' s := by
  obtain ⟨od, Ia, _, no⟩ := R.instAt
  have mo := O.meth m md hm
  obtain ⟨fd, b, hk, _⟩ := mo.fd
  obtain ⟨t, g, tk⟩ := fn_special hk
  refine get_bind (X' O R) Ia O.ga (findObj_fn O.hd mo.find g tk mo.cop (no _ mo.notF)) O.gg ?_
  exact wpAny_call (fn_get (s := { s with toks := s.toks + 1 }) (X' O R) t (handed_on rfl h))
theorem meth_of (R : Mr x σ s.heap) {m : Nat} {md : MethD} (hm : x.c.P[m]? = some md) {pl : Sem Bool} {Q : Value × List Value → Shared → Prop} (h : Q (.ref (x.fnA m), [.ref x.I]) s) :
    wpAny (model x.prog x.w) A (getMethod (.ref x.I) md.nm pl) Q E' s := by
  obtain ⟨od, Ia, _, no⟩ := R.instAt
  have mo := O.meth m md hm
  obtain ⟨fd, b, hk, _⟩ := mo.fd
  obtain ⟨t, g, tk⟩ := fn_special hk
  exact method_fn (X' O R) Ia O.ga O.gg mo.find t (by show (lookIn md.nm od).map (·.isSome) = some false; rw [no _ mo.notF]; rfl) h
omit O in
theorem fields_within {m : Str → Option Value} (z : ∀ n, (∀ f : Fld, n ≠ f.nm) → m n = none) : Within m (Fld.all.map Fld.nm) := fun y hy => by
  apply Classical.byContradiction
  intro q
  exact hy (z y fun f e => q (List.mem_map.mpr ⟨f, Fld.mem_all f, e.symm⟩))
theorem set_fld (R : Mr x σ s.heap) {f : Fld} {v : V} {y : Value} {σ' : M} (hs : σ.set f v = some σ') (hnu : v ≠ .unset) (hv : ∀ h, Rp x h v y) {Q : Unit → Shared → Prop}
    (h : ∀ s', Mr x σ' s'.heap → Kp [x.D, x.L] s s' → Away [x.D] s.heap s'.heap → Q () s') : wpAny (model x.prog x.w) A (setAttr (.ref x.I) f.nm y) Q E' s := by
  obtain ⟨od, Ia, fl, _⟩ := R.instAt
  obtain ⟨m, n, r, z⟩ := R.ns
  refine set_plain (X' O R) Ia O.sa ?_
  refine osa_open (X' O R) (s := { s with toks := s.toks + 1 }) Ia O.po (r := none) (by unfold takerIn; rw [O.fld f]; rfl) fun b => ?_
  obtain ⟨cd, hc, hd'⟩ := any_some O.hd
  refine wpAny_bind (wpAny_pure (wpAny_bind (wpAny_bind (wpAny_loadPart R.inst (wpAny_bind (Looks.here (s := { s with toks := s.toks + 1 }) (looks_clsIn (X' O R) hc) ?_))))))
  rw [hd']
  refine wpAny_pure (a := some x.D) (wpAny_bind (wpAny_pure (wpAny_bind ?_)))
  refine wpAny_nsSet1 (s := { s with toks := s.toks + 1 }) n fun h' n' sb => ?_
  have ok : ∀ k, k ≠ x.D → h'.get? k = s.heap.get? k := fun k q => sb.2 k q
  have nm : ∀ g : Fld, (if g.nm = f.nm then some y else m g.nm) = if g = f then some y else m g.nm := fun g => by
    by_cases e : g = f
    · subst e; simp
    · rw [if_neg e, if_neg fun q => e (Fld.nm_inj _ _ q)]
  have z' : ∀ n, (∀ f : Fld, n ≠ f.nm) → (if n = f.nm then some y else m n) = none := fun n hn => by rw [if_neg (hn f)]; exact z n hn
  obtain ⟨o', es', ep', e', d', c'⟩ := n'.count (fields_within z')
  obtain ⟨gm, gs⟩ := M.get_set hs
  have aw : Away [x.D] s.heap h' := fun b o e q => by rw [ok b (by simpa using q)]; exact e
  have R' : Mr x σ' h' := by
    refine ⟨fun b o e => ?_, ?_, ⟨_, n', fun g => ?_, z'⟩, ?_, by rw [gm]; exact R.sz⟩
    · rw [ok b fun q => by rw [q, O.nD] at e; cases e]; exact R.stays b o e
    · rw [ok x.I fun q => ?_]; exact R.inst
      obtain ⟨o, es, ep, e, d⟩ := ns_kind n.ns
      rw [← q, R.inst] at e; cases e; cases d
    · rw [nm, gs g]
      by_cases e : g = f
      · rw [if_pos e, if_pos e]; exact (FldR.of hnu).mpr ⟨y, rfl, hv _⟩
      · rw [if_neg e, if_neg e]
        exact (r g).map fun u ru => ru.keeps R (aw.mono fun b hb => by simp at hb; simp [hb])
    · rw [gm]
      obtain ⟨its, ⟨o, k, e, cl, dn, d⟩, ia⟩ := R.mem
      exact ⟨its, ⟨o, k, by rw [ok x.L (Ne.symm O.DL)]; exact e, cl, dn, d⟩, ia⟩
  refine wpAny_bind (wpAny_lookBehind e' (by rw [d']; exact pastItsLine_dict (Nat.le_trans c' (by rw [sizeLine_eq]; decide))) ?_)
  exact wpAny_pure (h _ R' ⟨h', _, rfl, aw.mono fun b hb => by simp at hb; simp [hb]⟩ aw)
end
end Mine

end
section
open PySem PySem.W PyProof.Rows
set_option maxRecDepth 100000
set_option linter.unusedSimpArgs false
namespace Mine
section
variable {c : Cls} {vars : List Str} {ex : PySem.Expr}
theorem isSelf_of {b : PySem.Expr} (h : isSelf b = true) : ∃ p, b = .Name ("self" : Str) p := by
  apply o_Name_elim h; intro n p h
  exact ⟨p, by rw [beq_iff_eq.mp h]⟩
theorem isVar_of {v : Nat} {n : Str} (h : isVar vars v n = true) : vars[v]? = some n := beq_iff_eq.mp h
theorem isMeth_of {m : Nat} {n : Str} (h : isMeth c m n = true) : ∃ md, c.P[m]? = some md ∧ md.nm = n := by
  unfold isMeth at h; split at h
  · rename_i md e; exact ⟨md, e, beq_iff_eq.mp h⟩
  · cases h
theorem tr_int {i : Int} (h : trE c vars (.int i) ex = true) : ∃ k p, ex = .Constant (.int i) k p := by
  replace h := inv_trE_int h
  obtain ⟨_, _, _, rfl, h⟩ := h
  try simp only [Bool.and_eq_true, beq_iff_eq] at h
  subst h; exact ⟨_, _, rfl⟩
theorem tr_none (h : trE c vars .none ex = true) : ∃ k p, ex = .Constant .none k p := by
  replace h := inv_trE_none h
  obtain ⟨_, _, rfl, h⟩ := h
  exact ⟨_, _, rfl⟩
theorem tr_var {v : Nat} (h : trE c vars (.var v) ex = true) : ∃ n p, ex = .Name n p ∧ isVar vars v n = true := by
  replace h := inv_trE_var h
  obtain ⟨_, _, rfl, h⟩ := h
  try simp only [Bool.and_eq_true, beq_iff_eq] at h
  exact ⟨_, _, rfl, h⟩
theorem tr_fld {f : Fld} (h : trE c vars (.fld f) ex = true) : ∃ b p, ex = .Attribute b f.nm p ∧ isSelf b = true := by
  replace h := inv_trE_fld h
  obtain ⟨_, _, _, rfl, h⟩ := h
  try simp only [Bool.and_eq_true, beq_iff_eq] at h
  obtain ⟨h1, rfl⟩ := h; exact ⟨_, _, rfl, h1⟩
theorem tr_cst {k : Nat} (h : trE c vars (.cst k) ex = true) : ∃ b n v p, ex = .Attribute b n p ∧ isSelf b = true ∧ c.csts[k]? = some (n, v) := by
  replace h := inv_trE_cst h
  obtain ⟨_, _, _, rfl, h⟩ := h
  try simp only [Bool.and_eq_true, beq_iff_eq] at h
  obtain ⟨h1, h2⟩ := h
  split at h2
  · rename_i y e; obtain ⟨n, v⟩ := y; obtain rfl : n = _ := beq_iff_eq.mp h2; exact ⟨_, _, v, _, rfl, h1, e⟩
  · cases h2
theorem tr_mref {m : Nat} (h : trE c vars (.mref m) ex = true) : ∃ b n p, ex = .Attribute b n p ∧ isSelf b = true ∧ isMeth c m n = true := by
  replace h := inv_trE_mref h
  obtain ⟨_, _, _, rfl, h⟩ := h
  try simp only [Bool.and_eq_true, beq_iff_eq] at h
  exact ⟨_, _, _, rfl, h.1, h.2⟩
theorem tr_mem {i : E} (h : trE c vars (.mem i) ex = true) : ∃ b p e q, ex = .Subscript (.Attribute b ("memory" : Str) p) e q ∧ isSelf b = true ∧ plainE e = true ∧ trE c vars i e = true := by
  replace h := inv_trE_mem h
  obtain ⟨_, _, _, _, _, rfl, h⟩ := h
  try simp only [Bool.and_eq_true, beq_iff_eq] at h
  obtain ⟨⟨⟨h1, rfl⟩, h2⟩, h3⟩ := h; exact ⟨_, _, _, _, rfl, h1, h2, h3⟩
theorem tr_tab {t : Nat} {i : E} (h : trE c vars (.tab t i) ex = true) : ∃ b n l p e q, ex = .Subscript (.Attribute b n p) e q ∧ isSelf b = true ∧ c.tabs[t]? = some (n, l) ∧ plainE e = true ∧ trE c vars i e = true := by
  replace h := inv_trE_tab h
  obtain ⟨_, _, _, _, _, rfl, h⟩ := h
  try simp only [Bool.and_eq_true, beq_iff_eq] at h
  obtain ⟨⟨⟨h1, h2⟩, h3⟩, h4⟩ := h
  split at h2
  · rename_i y e; obtain ⟨n, v⟩ := y; obtain rfl : n = _ := beq_iff_eq.mp h2; exact ⟨_, _, v, _, _, _, rfl, h1, e, h3, h4⟩
  · cases h2
theorem tr_bin {op : BOp} {a b : E} (h : trE c vars (.bin op a b) ex = true) : ∃ l r p, ex = .BinOp l op.op r p ∧ trE c vars a l = true ∧ trE c vars b r = true := by
  replace h := inv_trE_bin h
  obtain ⟨_, _, _, _, rfl, h⟩ := h
  try simp only [Bool.and_eq_true, beq_iff_eq] at h
  obtain ⟨⟨rfl, h1⟩, h2⟩ := h; exact ⟨_, _, _, rfl, h1, h2⟩
theorem tr_inv {a : E} (h : trE c vars (.inv a) ex = true) : ∃ l p, ex = .UnaryOp .Invert l p ∧ trE c vars a l = true := by
  replace h := inv_trE_inv h
  obtain ⟨_, _, _, rfl, h⟩ := h
  try simp only [Bool.and_eq_true, beq_iff_eq] at h
  obtain ⟨rfl, h1⟩ := h; exact ⟨_, _, rfl, h1⟩
theorem tr_cmp {op : COp} {a b : E} (h : trE c vars (.cmp op a b) ex = true) : ∃ l r p, ex = .Compare l [op.op] [r] p ∧ plainE r = true ∧ trE c vars a l = true ∧ trE c vars b r = true := by
  replace h := inv_trE_cmp h
  obtain ⟨_, _, _, _, rfl, h⟩ := h
  try simp only [Bool.and_eq_true, beq_iff_eq] at h
  obtain ⟨⟨⟨rfl, h0⟩, h1⟩, h2⟩ := h; exact ⟨_, _, _, rfl, h0, h1, h2⟩
theorem tr_isNone {v : Nat} (h : trE c vars (.isNone v) ex = true) : ∃ n p k q p', ex = .Compare (.Name n p) [.Is] [.Constant .none k q] p' ∧ isVar vars v n = true := by
  replace h := inv_trE_isNone h
  obtain ⟨_, _, _, _, _, _, rfl, h⟩ := h
  try simp only [Bool.and_eq_true, beq_iff_eq] at h
  obtain ⟨rfl, h1⟩ := h; exact ⟨_, _, _, _, _, rfl, h1⟩
theorem tr_isNoneF {f : Fld} (h : trE c vars (.isNoneF f) ex = true) : ∃ b p k q p', ex = .Compare (.Attribute b f.nm p) [.Is] [.Constant .none k q] p' ∧ isSelf b = true := by
  replace h := inv_trE_isNoneF h
  obtain ⟨_, _, _, _, _, _, _, rfl, h⟩ := h
  try simp only [Bool.and_eq_true, beq_iff_eq] at h
  obtain ⟨⟨rfl, h1⟩, rfl⟩ := h; exact ⟨_, _, _, _, _, rfl, h1⟩
theorem tr_txt (h : trE c vars .txt ex = true) : ∃ s k p, ex = .Constant (.str s) k p := by
  replace h := inv_trE_txt h
  obtain ⟨_, _, _, rfl, h⟩ := h
  exact ⟨_, _, _, rfl⟩
theorem tr_bool {b : Bool} (h : trE c vars (.bool b) ex = true) : ∃ k p, ex = .Constant (.bool b) k p := by
  replace h := inv_trE_bool h
  obtain ⟨_, _, _, rfl, h⟩ := h
  try simp only [Bool.and_eq_true, beq_iff_eq] at h
  subst h; exact ⟨_, _, rfl⟩
theorem tr_call0 {m : Nat} (h : trE c vars (.call0 m) ex = true) : ∃ b n ap p, ex = .Call (.Attribute b n ap) [] [] p ∧ isSelf b = true ∧ isMeth c m n = true ∧ ap.endLine = p.line := by
  replace h := inv_trE_call0 h
  obtain ⟨_, _, _, _, rfl, h⟩ := h
  try simp only [Bool.and_eq_true, beq_iff_eq] at h
  obtain ⟨⟨h1, h2⟩, h3⟩ := h; exact ⟨_, _, _, _, rfl, h1, h2, h3⟩
theorem tr_call1 {m : Nat} {a : E} (h : trE c vars (.call1 m a) ex = true) : ∃ b n ap e p, ex = .Call (.Attribute b n ap) [e] [] p ∧ isSelf b = true ∧ isMeth c m n = true ∧ ap.endLine = p.line ∧ plainE e = true ∧ trE c vars a e = true := by
  replace h := inv_trE_call1 h
  obtain ⟨_, _, _, _, _, rfl, h⟩ := h
  try simp only [Bool.and_eq_true, beq_iff_eq] at h
  obtain ⟨⟨⟨⟨h1, h2⟩, h3⟩, h4⟩, h5⟩ := h; exact ⟨_, _, _, _, _, rfl, h1, h2, h3, h4, h5⟩
theorem tr_call2 {m : Nat} {a d : E} (h : trE c vars (.call2 m a d) ex = true) : ∃ b n ap e f p, ex = .Call (.Attribute b n ap) [e, f] [] p ∧ isSelf b = true ∧ isMeth c m n = true ∧ ap.endLine = p.line ∧ plainE e = true ∧ plainE f = true ∧ trE c vars a e = true ∧ trE c vars d f = true := by
  replace h := inv_trE_call2 h
  obtain ⟨_, _, _, _, _, _, rfl, h⟩ := h
  try simp only [Bool.and_eq_true, beq_iff_eq] at h
  obtain ⟨⟨⟨⟨⟨⟨h1, h2⟩, h3⟩, h4⟩, h5⟩, h6⟩, h7⟩ := h; exact ⟨_, _, _, _, _, _, rfl, h1, h2, h3, h4, h5, h6, h7⟩
theorem tr_callV {v : Nat} (h : trE c vars (.callV v) ex = true) : ∃ n p q, ex = .Call (.Name n p) [] [] q ∧ isVar vars v n = true := by
  replace h := inv_trE_callV h
  obtain ⟨_, _, _, rfl, h⟩ := h
  try simp only [Bool.and_eq_true, beq_iff_eq] at h
  exact ⟨_, _, _, rfl, h⟩
theorem tr_callT {i : E} (h : trE c vars (.callT i) ex = true) : ∃ b p e q s r, ex = .Call (.Subscript (.Attribute b c.instrN p) e q) [.Name ("self" : Str) s] [] r ∧ isSelf b = true ∧ plainE e = true ∧ trE c vars i e = true := by
  replace h := inv_trE_callT h
  obtain ⟨_, _, _, _, _, _, _, _, rfl, h⟩ := h
  try simp only [Bool.and_eq_true, beq_iff_eq] at h
  obtain ⟨⟨⟨⟨h1, rfl⟩, h2⟩, h3⟩, rfl⟩ := h; exact ⟨_, _, _, _, _, _, rfl, h1, h2, h3⟩
end

inductive Rps (x : Cx) (h : Heap) : List V → List Value → Prop
  | nil : Rps x h [] []
  | cons {v : V} {y : Value} {vs : List V} {ys : List Value} : Rp x h v y → Rps x h vs ys → Rps x h (v :: vs) (y :: ys)
noncomputable def CallOk (x : Cx) (A : Around) (cf : Nat → List V → M → Option (V × M)) : Prop :=
  ∀ (m : Nat) (args : List V) (σ : M) (v : V) (σ' : M), cf m args σ = some (v, σ') → ∀ (s : Shared) (vals : List Value) (R : Result → Shared → Prop), Mr x σ s.heap → Rps x s.heap args vals →
    (∀ y s', Mr x σ' s'.heap → Rp x s'.heap v y → Kp [x.D, x.L] s s' → R (.ok (.ret y)) s') → codeAny (model x.prog x.w) A (.call (.ref (x.fnA m)) ⟨.ref x.I :: vals, []⟩) R s

section
variable {x : Cx} (O : Ok x) {A : Around} {E' : Value → Shared → Prop} {env : Env} {vars : List Str} (EO : EnvOk env vars) {ρ : Loc}
include EO in
theorem load_var {s : Shared} {σ : M} (_R : Mr x σ s.heap) (l : Lr x env vars ρ s.heap) {i : Nat} {n : Str} {p : Pos} {v : V} (hi : vars[i]? = some n) (hv : ρ.at i = some v) {Q : Value → Shared → Prop} (h : ∀ y, Rp x s.heap v y → Q y s) :
    wpAny (model x.prog x.w) A (eval (.Name n p) env) Q E' s := by
  obtain ⟨m, ns, r⟩ := l.ns
  obtain ⟨y, e, ry⟩ := r i n v hi hv
  have mem : n ∈ vars := List.mem_of_getElem? hi
  exact wpAny_Name (wpAny_loadName_local EO.kind (EO.loc n mem) ns e (h y ry)) (EO.nodbg n mem)
include EO in
theorem load_self {s : Shared} {σ : M} (R : Mr x σ s.heap) (l : Lr x env vars ρ s.heap) {p : Pos} {Q : Value → Shared → Prop} (h : Q (.ref x.I) s) : wpAny (model x.prog x.w) A (eval (.Name ("self" : Str) p) env) Q E' s :=
  load_var EO R l EO.self l.self fun y r => by obtain rfl := r; exact h
theorem BOp.binary {op : BOp} {s : Shared} {a b r : Int} {t u : Tok} (e : op.ev a b = some r) {Q : Value → Shared → Prop} (h : Q (.int r s.toks) { s with toks := s.toks + 1 }) : wpAny (model x.prog x.w) A (binaryOp op.op (.int a t) (.int b u)) Q E' s := by
  cases op <;> simp only [BOp.ev, Option.some.injEq] at e
  · subst e; exact add_int h
  · subst e; exact sub_int h
  · subst e; exact and_int h
  · subst e; exact or_int h
  · subst e; exact xor_int h
  · split at e
    · rename_i q; cases e; exact lshift_int_small q.1 (by omega) q.2.2 h
    · cases e
  · split at e
    · rename_i q; cases e; exact rshift_int q h
    · cases e
theorem BOp.inplace {op : BOp} {s : Shared} {a b r : Int} {t u : Tok} (e : op.ev a b = some r) {Q : Value → Shared → Prop} (h : Q (.int r s.toks) { s with toks := s.toks + 1 }) : wpAny (model x.prog x.w) A (inplaceOp op.op (.int a t) (.int b u)) Q E' s := by
  cases op <;> simp only [BOp.ev, Option.some.injEq] at e
  · subst e; exact PySem.P.iadd_int h
  · subst e; exact PySem.P.isub_int h
  · subst e; exact iand_int h
  · subst e; exact ior_int h
  · subst e; exact ixor_int h
  · split at e
    · rename_i q; cases e; exact ilshift_int_small q.1 (by omega) q.2.2 h
    · cases e
  · split at e
    · rename_i q; cases e; exact irshift_int q h
    · cases e
theorem COp.compare {op : COp} {s : Shared} {a b : Int} {t u : Tok} {Q : Value → Shared → Prop} (h : Q (.bool (op.ev a b)) s) : wpAny (model x.prog x.w) A (compareOp op.op (.int a t) (.int b u)) Q E' s := by
  cases op
  · exact PyProof.Rows.eq_int h
  · exact PyProof.Rows.ne_int h
  · exact PySem.P.lt_int h
  · exact PySem.P.le_int h
  · exact PySem.P.gt_int h
  · exact PySem.P.ge_int h
end
end Mine

end
section
open PySem PySem.W PyProof.Rows
set_option maxRecDepth 100000
namespace Mine
theorem Mr.grow {x : Cx} {σ : M} {h h' : Heap} (R : Mr x σ h) (k : ∀ b o, h.get? b = some o → h'.get? b = some o) : Mr x σ h' := by
  obtain ⟨st, i, ⟨m, n, r, z⟩, ⟨its, ⟨o, nn, e, q⟩, ia⟩, sz⟩ := id R
  refine ⟨fun b o e => k b o (st b o e), k _ _ i, ⟨m, n.keeps k, fun f => ?_, z⟩, ⟨its, ⟨o, nn, k _ _ e, q⟩, ia⟩, sz⟩
  exact (r f).map fun v rv => rv.keeps R fun b o e _ => k b o e
theorem plain_sub {e : PySem.Expr} (h : plainE e = true) (o i : Value) : subscripted e false o i = operate [o, i] (getItem o i) := by
  cases e <;> first | rfl | cases h
theorem plain_star {e : PySem.Expr} (h : plainE e = true) (env : Env) (rest : List PySem.Expr) : starEach (e :: rest) env = (false, eval e env) :: starEach rest env := by
  cases e <;> first | rfl | cases h
theorem op_marks (op : COp) (e : PySem.Expr) (h : behindInMarks .Eq e = false) : behindInMarks op.op e = false := by cases op <;> exact h
theorem plain_marks {e : PySem.Expr} (h : plainE e = true) (op : COp) : behindInMarks op.op e = false := op_marks op e (by cases e <;> first | rfl | cases h)
theorem plain_swaps {e : PySem.Expr} (h : plainE e = true) (t : Option PySem.Expr) (n : Nat) (env : Env) : swapsWith e t n env = pure false := by
  cases e <;> first | rfl | cases h
section
variable {x : Cx} (O : Ok x) {A : Around} {E' : Value → Shared → Prop} {env : Env} {vars : List Str} (EO : EnvOk env vars) {ρ : Loc}
include O EO in
theorem call_self {s : Shared} {σ : M} (R : Mr x σ s.heap) (l : Lr x env vars ρ s.heap) {m : Nat} {md : MethD} (hm : x.c.P[m]? = some md) {bp ap p : Pos} {args : List PySem.Expr} {Q : Value → Shared → Prop}
    (hl : ap.endLine = p.line) (hf : methodCallForm args.length (backTo p (starEach args env)) [] = true) (h : wpAny (model x.prog x.w) A (callWith p (.ref (x.fnA m)) [.ref x.I] (backTo p (starEach args env)) []) Q E' s) :
    wpAny (model x.prog x.w) A (eval (.Call (.Attribute (.Name ("self" : Str) bp) md.nm ap) args [] p) env) Q E' s := by
  show wpAny _ _ (eval (.Name ("self" : Str) bp) env >>= fun ov => standAt ap.atName >>= fun _ => methodCall (.Name ("self" : Str) bp) md.nm ap p env ov args.length (backTo p (starEach args env)) []) _ _ _
  refine wpAny_bind (load_self EO R l (wpAny_bind (wpAny_standAt ?_)))
  unfold methodCall calleeOf methodCallPos
  rw [hf]
  have q : (ap.endLine == p.line) = true := by rw [hl]; exact beq_self_eq_true _
  simp only [if_true, Bool.not_true, Bool.false_or, q]
  exact wpAny_bind (wpAny_holding (meth_of O R hm (wpAny_bind (wpAny_pure h))))

theorem ints_at : ∀ {vs : List Value} {ns : List Int} (_ : IntsAre vs ns) (i : Nat) (n : Int), ns[i]? = some n → ∃ t, vs[i]? = some (.int n t)
  | _, _, .cons k t r, 0, n, h => by simp at h; subst h; exact ⟨t, rfl⟩
  | _, _, .cons k t r, i + 1, n, h => by simp at h; obtain ⟨t', e⟩ := ints_at r i n h; exact ⟨t', by simpa using e⟩
  | _, _, .nil, i, n, h => by simp at h
theorem at_of {l : List Int} {k n : Int} (h : at? l k = some n) : 0 ≤ k ∧ l[k.toNat]? = some n ∧ k.toNat < l.length := by
  unfold at? at h
  split at h
  · rename_i q; exact ⟨q, h, (List.getElem?_eq_some_iff.mp h).1⟩
  · cases h
theorem item_at {s : Shared} {a : Addr} {items : Array Value} {ns : List Int} (hl : s.heap.IsList a items) (hi : IntsAre items.toList ns) {k n : Int} {u : Tok} (h : at? ns k = some n) (hsz : ns.length < 2 ^ 62) {value e : PySem.Expr} (he : plainE e = true) {Q : Value → Shared → Prop}
    (hq : ∀ t, Q (.int n t) s) : wpAny (model x.prog x.w) A (subscriptTail value e (.ref a) (.int k u)) Q E' s := by
  obtain ⟨h0, hn, hlt⟩ := at_of h
  obtain ⟨t, ht⟩ := ints_at hi _ _ hn
  exact tail_any hl.typeIs slot_list_getitem.lookup (wpAny_getItem_list hl h0 (by lia) (by rw [← Array.getElem?_toList]; exact ht) (hq t)) (plain_sub he _ _)
theorem hm_get {σ : M} (h : σ.hm = true) : σ.get .mem = .memr := by
  show (match σ.hm with | true => V.memr | false => V.unset) = _
  rw [h]
theorem Kp.tok' {ds : List Addr} {s s' : Shared} (k : Kp ds s s') : Kp ds s { s' with toks := s'.toks + 1 } := k.trans .tok

end
structure Below (x : Cx) (A : Around) (cf : Nat → List V → M → Option (V × M)) : Prop where
  ok : CallOk x A cf
  P : ∀ m args σ r, cf m args σ = some r → ∃ md, x.c.P[m]? = some md
  sz : ∀ m args σ v σ', cf m args σ = some (v, σ') → σ.mem.length < 2 ^ 62 → σ'.mem.length < 2 ^ 62
structure Small (x : Cx) : Prop where
  tab : ∀ (k : Nat) (n : Str) (l : List Int), x.c.tabs[k]? = some (n, l) → l.length < 2 ^ 62
  ins : x.c.instr.length < 2 ^ 62
section
variable (x : Cx) (A : Around) (env : Env) (vars : List Str) (ρ : Loc)
noncomputable abbrev PostE (v : V) (σ' : M) (s : Shared) (Q : Value → Shared → Prop) : Prop := ∀ y s', Mr x σ' s'.heap → Lr x env vars ρ s'.heap → Rp x s'.heap v y → Kp [x.D, x.L] s s' → Q y s'
noncomputable def WE (ex : PySem.Expr) (σ : M) (v : V) (σ' : M) : Prop := ∀ (s : Shared) (Q : Value → Shared → Prop) (E' : Value → Shared → Prop), Mr x σ s.heap → Lr x env vars ρ s.heap → PostE x env vars ρ v σ' s Q → wpAny (model x.prog x.w) A (eval ex env) Q E' s
noncomputable def SE (cf : Nat → List V → M → Option (V × M)) (e : E) : Prop := ∀ (ex : PySem.Expr) (σ : M) (v : V) (σ' : M), trE x.c vars e ex = true → evE x.c cf ρ e σ = some (v, σ') → σ.mem.length < 2 ^ 62 → σ'.mem.length < 2 ^ 62 ∧ WE x A env vars ρ ex σ v σ'
end
section
variable {x : Cx} (O : Ok x) (Z : Small x) {A : Around} {env : Env} {vars : List Str} (EO : EnvOk env vars) {ρ : Loc} {cf : Nat → List V → M → Option (V × M)} (B : Below x A cf)
theorem e_int (i : Int) : SE x A env vars ρ cf (.int i) := fun ex σ v σ' ht he hz => by
  obtain ⟨k, p, rfl⟩ := tr_int ht
  cases he
  exact ⟨hz, fun s Q E' R l h => wpAny_Constant_int (h _ _ R l ⟨_, rfl⟩ .tok)⟩
theorem e_none : SE x A env vars ρ cf .none := fun ex σ v σ' ht he hz => by
  obtain ⟨k, p, rfl⟩ := tr_none ht
  cases he
  exact ⟨hz, fun s Q E' R l h => wpAny_Constant_none (h _ _ R l rfl .refl)⟩
theorem e_txt : SE x A env vars ρ cf .txt := fun ex σ v σ' ht he hz => by
  obtain ⟨s, k, p, rfl⟩ := tr_txt ht
  cases he
  exact ⟨hz, fun s Q E' R l h => wpAny_Constant_str (h _ _ R l ⟨_, _, rfl⟩ .tok)⟩
theorem e_bool (b : Bool) : SE x A env vars ρ cf (.bool b) := fun ex σ v σ' ht he hz => by
  obtain ⟨k, p, rfl⟩ := tr_bool ht
  cases he
  exact ⟨hz, fun s Q E' R l h => wpAny_Constant_bool (h _ _ R l rfl .refl)⟩
include EO in
theorem e_var (i : Nat) : SE x A env vars ρ cf (.var i) := fun ex σ v σ' ht he hz => by
  obtain ⟨n, p, rfl, hv⟩ := tr_var ht
  refine map_el he fun u hu e => ?_
  cases e
  exact ⟨hz, fun s Q E' R l h => load_var EO R l (isVar_of hv) hu fun y r => h y s R l r .refl⟩
include O EO
theorem e_fld (f : Fld) : SE x A env vars ρ cf (.fld f) := fun ex σ v σ' ht he hz => by
  obtain ⟨b, p, rfl, hb⟩ := tr_fld ht
  obtain ⟨bp, rfl⟩ := isSelf_of hb
  refine map_el he fun u hu e => ?_
  cases e
  obtain ⟨rfl, nu⟩ := V.got?_of hu
  exact ⟨hz, fun s Q E' R l h => Attribute_Name_ (load_self EO R l (get_fld O R f nu fun y r => h y _ R l r .tok))⟩
theorem e_cst (k : Nat) : SE x A env vars ρ cf (.cst k) := fun ex σ v σ' ht he hz => by
  obtain ⟨b, n, i, p, rfl, hb, hk⟩ := tr_cst ht
  obtain ⟨bp, rfl⟩ := isSelf_of hb
  refine map_el he fun u hu e => ?_
  cases e
  cases hk.symm.trans hu
  exact ⟨hz, fun s Q E' R l h => Attribute_Name_ (load_self EO R l (get_cst O R hk fun t => h _ _ R l ⟨t, rfl⟩ .tok))⟩
theorem e_mref (m : Nat) : SE x A env vars ρ cf (.mref m) := fun ex σ v σ' ht he hz => by
  obtain ⟨b, n, p, rfl, hb, hm⟩ := tr_mref ht
  obtain ⟨bp, rfl⟩ := isSelf_of hb
  obtain ⟨md, hmd, rfl⟩ := isMeth_of hm
  cases he
  refine ⟨hz, fun s Q E' R l h => Attribute_Name_ (load_self EO R l (get_meth O R hmd ?_))⟩
  have aw2 : Away [x.D, x.L] s.heap (s.heap.push (methodObj (.ref (x.fnA m)) (.ref x.I))) := fun b o e _ => Heap.get?_push_of_some _ e
  exact h _ _ (R.grow fun b o e => Heap.get?_push_of_some _ e) (l.keeps R aw2) ⟨_, rfl, Heap.get?_push_size _ rfl⟩ ⟨_, _, rfl, aw2⟩
theorem e_mem {i : E} (ih : SE x A env vars ρ cf i) : SE x A env vars ρ cf (.mem i) := fun ex σ v σ' ht he hz => by
  obtain ⟨b, p, e, q, rfl, hb, hp, hi⟩ := tr_mem ht
  obtain ⟨bp, rfl⟩ := isSelf_of hb
  obtain ⟨hm, he⟩ := cond_of he
  obtain ⟨k, σ₁, h1, he⟩ := onI_of he
  obtain ⟨n, hn, e'⟩ := map_of he
  cases e'
  obtain ⟨z1, w1⟩ := ih e σ _ _ hi h1 hz
  refine ⟨z1, fun s Q E' R l h => Subscript_ (Attribute_Name_ (load_self EO R l (get_fld O R .mem (hm_get hm ▸ fun q => nomatch q) fun y r => ?_)))⟩
  obtain rfl : y = .ref x.L := (hm_get hm ▸ r :)
  refine w1 _ _ _ R l fun y s₁ R₁ l₁ r₁ k₁ => ?_
  obtain ⟨t, rfl⟩ := r₁
  obtain ⟨its, il, ia⟩ := R₁.mem
  exact item_at il.isList ia hn z1 hp fun t => h _ s₁ R₁ l₁ ⟨t, rfl⟩ (Kp.tok.trans k₁)
include Z in
theorem e_tab {t : Nat} {i : E} (ih : SE x A env vars ρ cf i) : SE x A env vars ρ cf (.tab t i) := fun ex σ v σ' ht he hz => by
  obtain ⟨b, n, tl, p, e, q, rfl, hb, htb, hp, hi⟩ := tr_tab ht
  obtain ⟨bp, rfl⟩ := isSelf_of hb
  obtain ⟨k, σ₁, h1, he⟩ := onI_of he
  obtain ⟨l', hl', he⟩ := bind_of he
  cases htb.symm.trans hl'
  obtain ⟨n', hn, e'⟩ := map_of he
  cases e'
  obtain ⟨z1, w1⟩ := ih e σ _ _ hi h1 hz
  obtain ⟨fa, cp, nf, vs, hk, ia⟩ := O.tab t n tl htb
  refine ⟨z1, fun s Q E' R l h => Subscript_ (Attribute_Name_ (load_self EO R l (get_lst O R fa hk cp nf (w1 _ _ _ R l fun y s₁ R₁ l₁ r₁ k₁ => ?_))))⟩
  obtain ⟨t', rfl⟩ := r₁
  exact item_at (items := vs.toArray) ⟨_, R₁.stays _ _ (O.X _ _ hk), rfl, _, rfl⟩ ia hn (Z.tab _ _ _ htb) hp fun t => h _ s₁ R₁ l₁ ⟨t, rfl⟩ (Kp.tok.trans k₁)
omit O EO in
theorem e_bin {op : BOp} {a b : E} (iha : SE x A env vars ρ cf a) (ihb : SE x A env vars ρ cf b) : SE x A env vars ρ cf (.bin op a b) := fun ex σ v σ' ht he hz => by
  obtain ⟨el, er, p, rfl, ha, hb⟩ := tr_bin ht
  obtain ⟨i, σ₁, h1, he⟩ := onI_of he
  obtain ⟨j, σ₂, h2, he⟩ := onI_of he
  obtain ⟨n, hn, e'⟩ := map_of he
  cases e'
  obtain ⟨z1, w1⟩ := iha el σ _ _ ha h1 hz
  obtain ⟨z2, w2⟩ := ihb er σ₁ _ _ hb h2 z1
  refine ⟨z2, fun s Q E' R l h => wpAny_BinOp (w1 s _ _ R l fun y s₁ R₁ l₁ r₁ k₁ => w2 s₁ _ _ R₁ l₁ fun y₂ s₂ R₂ l₂ r₂ k₂ => ?_)⟩
  obtain ⟨t, rfl⟩ := r₁
  obtain ⟨t₂, rfl⟩ := r₂
  exact BOp.binary hn (h _ _ R₂ l₂ ⟨_, rfl⟩ ((k₁.trans k₂).tok'))
omit O EO in
theorem e_inv {a : E} (ih : SE x A env vars ρ cf a) : SE x A env vars ρ cf (.inv a) := fun ex σ v σ' ht he hz => by
  obtain ⟨el, p, rfl, ha⟩ := tr_inv ht
  obtain ⟨i, σ₁, h1, he⟩ := onI_of he
  cases he
  obtain ⟨z1, w1⟩ := ih el σ _ _ ha h1 hz
  refine ⟨z1, fun s Q E' R l h => UnaryOp_ (w1 s _ _ R l fun y s₁ R₁ l₁ r₁ k₁ => ?_)⟩
  obtain ⟨t, rfl⟩ := r₁
  exact invert_int (h _ _ R₁ l₁ ⟨_, rfl⟩ k₁.tok')
omit O EO in
theorem e_cmp2 {op : COp} {a b : E} (iha : SE x A env vars ρ cf a) (ihb : SE x A env vars ρ cf b) {ex : PySem.Expr} {σ : M} {v : V} {σ' : M} (ht : trE x.c vars (.cmp op a b) ex = true) (he : evE x.c cf ρ (.cmp op a b) σ = some (v, σ')) (hz : σ.mem.length < 2 ^ 62) :
    ∃ el er p c, ex = .Compare el [op.op] [er] p ∧ plainE er = true ∧ v = .bool c ∧ σ'.mem.length < 2 ^ 62 ∧ ∀ (s : Shared) (Q : Value → Shared → Prop) (E' : Value → Shared → Prop), Mr x σ s.heap → Lr x env vars ρ s.heap → (∀ s', Mr x σ' s'.heap → Lr x env vars ρ s'.heap → Kp [x.D, x.L] s s' → Q (.bool c) s') →
      wpAny (model x.prog x.w) A (eval el env) (fun y s₁ => wpAny (model x.prog x.w) A (eval er env) (fun y₂ s₂ => wpAny (model x.prog x.w) A (compareOp op.op y y₂) Q E' s₂) E' s₁) E' s := by
  obtain ⟨el, er, p, rfl, hp, ha, hb⟩ := tr_cmp ht
  obtain ⟨i, σ₁, h1, he⟩ := onI_of he
  obtain ⟨j, σ₂, h2, he⟩ := onI_of he
  cases he
  obtain ⟨z1, w1⟩ := iha el σ _ _ ha h1 hz
  obtain ⟨z2, w2⟩ := ihb er σ₁ _ _ hb h2 z1
  refine ⟨el, er, p, _, rfl, hp, rfl, z2, fun s Q E' R l h => w1 s _ _ R l fun y s₁ R₁ l₁ r₁ k₁ => w2 s₁ _ _ R₁ l₁ fun y₂ s₂ R₂ l₂ r₂ k₂ => ?_⟩
  obtain ⟨t, rfl⟩ := r₁
  obtain ⟨t₂, rfl⟩ := r₂
  exact COp.compare (h _ R₂ l₂ (k₁.trans k₂))
omit O EO in
theorem e_cmp {op : COp} {a b : E} (iha : SE x A env vars ρ cf a) (ihb : SE x A env vars ρ cf b) : SE x A env vars ρ cf (.cmp op a b) := fun ex σ v σ' ht he hz => by
  obtain ⟨el, er, p, c, rfl, hp, rfl, z, w⟩ := e_cmp2 iha ihb ht he hz
  exact ⟨z, fun s Q E' R l h => wpAny_Compare1 (w s _ _ R l fun s' R' l' k' => h _ s' R' l' rfl k') (plain_marks hp op)⟩
omit O in
theorem e_isNone2 {i : Nat} {ex : PySem.Expr} {σ : M} {v : V} {σ' : M} (ht : trE x.c vars (.isNone i) ex = true) (he : evE x.c cf ρ (.isNone i) σ = some (v, σ')) :
    ∃ n p k q p' c, ex = .Compare (.Name n p) [.Is] [.Constant .none k q] p' ∧ v = .bool c ∧ σ' = σ ∧ ∀ (s : Shared) (Q : Value → Shared → Prop) (E' : Value → Shared → Prop), Mr x σ s.heap → Lr x env vars ρ s.heap → Q (.bool c) s →
      wpAny (model x.prog x.w) A (eval (.Name n p) env) (fun y s₁ => wpAny (model x.prog x.w) A (eval (.Constant .none k q) env) (fun y₂ s₂ => wpAny (model x.prog x.w) A (compareOp .Is y y₂) Q E' s₂) E' s₁) E' s := by
  obtain ⟨n, p, k, q, p', rfl, hv⟩ := tr_isNone ht
  refine bind_el he fun u hu he => ?_
  refine map_el he fun c hc e => ?_
  cases e
  refine ⟨n, p, k, q, p', c, rfl, rfl, rfl, fun s Q E' R l h => load_var EO R l (isVar_of hv) hu fun y r => wpAny_Constant_none ?_⟩
  cases u <;> cases hc
  · obtain ⟨t, rfl⟩ := r; exact is_int_none h
  · obtain rfl := r; exact wpAny_is_self rfl h
  · obtain ⟨a, rfl, _⟩ := r; exact is_ref_none h
  · obtain rfl := r; exact is_ref_none h
omit O in
theorem e_isNone (i : Nat) : SE x A env vars ρ cf (.isNone i) := fun ex σ v σ' ht he hz => by
  obtain ⟨n, p, k, q, p', c, rfl, rfl, rfl, w⟩ := e_isNone2 (A := A) (env := env) EO ht he
  exact ⟨hz, fun s Q E' R l h => wpAny_Compare1 (w s _ _ R l (h _ s R l rfl .refl)) rfl⟩
theorem e_isNoneF2 {f : Fld} {ex : PySem.Expr} {σ : M} {v : V} {σ' : M} (ht : trE x.c vars (.isNoneF f) ex = true) (he : evE x.c cf ρ (.isNoneF f) σ = some (v, σ')) :
    ∃ (l : PySem.Expr) (k : Nat) (q p' : Pos) (c : Bool), ex = .Compare l [.Is] [.Constant .none k q] p' ∧ v = .bool c ∧ σ' = σ ∧ ∀ (s : Shared) (Q : Value → Shared → Prop) (E' : Value → Shared → Prop), Mr x σ s.heap → Lr x env vars ρ s.heap → Q (.bool c) { s with toks := s.toks + 1 } →
      wpAny (model x.prog x.w) A (eval l env) (fun y s₁ => wpAny (model x.prog x.w) A (eval (.Constant .none k q) env) (fun y₂ s₂ => wpAny (model x.prog x.w) A (compareOp .Is y y₂) Q E' s₂) E' s₁) E' s := by
  obtain ⟨b, p, k, q, p', rfl, hb⟩ := tr_isNoneF ht
  obtain ⟨bp, rfl⟩ := isSelf_of hb
  refine map_el he fun c hc e => ?_
  cases e
  generalize hu : σ.get f = u at hc
  have nu : σ.get f ≠ .unset := fun q => by rw [← hu, q] at hc; cases hc
  refine ⟨_, k, q, p', c, rfl, rfl, rfl, fun s Q E' R l h => Attribute_Name_ (load_self EO R l (get_fld O R f nu fun y r => wpAny_Constant_none ?_))⟩
  rw [hu] at r
  cases u <;> cases hc
  · obtain ⟨t, rfl⟩ := r; exact is_int_none h
  · obtain rfl := r; exact wpAny_is_self rfl h
theorem e_isNoneF (f : Fld) : SE x A env vars ρ cf (.isNoneF f) := fun ex σ v σ' ht he hz => by
  obtain ⟨l, k, q, p', c, rfl, rfl, rfl, w⟩ := e_isNoneF2 (A := A) (env := env) O EO ht he
  exact ⟨hz, fun s Q E' R l h => wpAny_Compare1 (w s _ _ R l (h _ _ R l rfl .tok)) rfl⟩
include B
theorem e_call0 (m : Nat) : SE x A env vars ρ cf (.call0 m) := fun ex σ v σ' ht he hz => by
  obtain ⟨b, n, ap, p, rfl, hb, hm, hl⟩ := tr_call0 ht
  obtain ⟨bp, rfl⟩ := isSelf_of hb
  obtain ⟨md, hmd, rfl⟩ := isMeth_of hm
  refine ⟨B.sz _ _ _ _ _ he hz, fun s Q E' R l h => call_self O EO R l hmd hl rfl ?_⟩
  obtain ⟨fd, _, hk, _⟩ := (O.meth m md hmd).fd
  exact callWith_meth0 rfl (R.stays _ _ (O.X _ _ hk)) (wpAny_call (B.ok m [] σ v σ' he s [] _ R .nil fun y s' R' r k => h y s' R' (l.keeps R k.away) r k))
theorem e_call1 {m : Nat} {a : E} (ih : SE x A env vars ρ cf a) : SE x A env vars ρ cf (.call1 m a) := fun ex σ v σ' ht he hz => by
  obtain ⟨b, n, ap, e, p, rfl, hb, hm, hl, hp, ha⟩ := tr_call1 ht
  obtain ⟨bp, rfl⟩ := isSelf_of hb
  obtain ⟨md, hmd, rfl⟩ := isMeth_of hm
  obtain ⟨⟨u, σ₁⟩, h1, he⟩ := bind_of he
  obtain ⟨z1, w1⟩ := ih e σ _ _ ha h1 hz
  refine ⟨B.sz _ _ _ _ _ he z1, fun s Q E' R l h => call_self O EO R l hmd hl (by rw [plain_star hp env []]; rfl) ?_⟩
  obtain ⟨fd, _, hk, _⟩ := (O.meth m md hmd).fd
  exact callWith_meth (h₀ := x.h₀) rfl (O.X _ _ hk) (args_cons (w1 s _ _ R l fun y s₁ R₁ l₁ r₁ k₁ => args_nil ⟨R₁.stays, wpAny_call (B.ok m [u] σ₁ v σ' he s₁ [y] _ R₁ (.cons r₁ .nil) fun y s' R' r k => h y s' R' (l₁.keeps R₁ k.away) r (k₁.trans k))⟩) (plain_star hp env [])) (plain_star hp env [])
theorem e_call2 {m : Nat} {a d : E} (iha : SE x A env vars ρ cf a) (ihd : SE x A env vars ρ cf d) : SE x A env vars ρ cf (.call2 m a d) := fun ex σ v σ' ht he hz => by
  obtain ⟨b, n, ap, e, f, p, rfl, hb, hm, hl, hp, hp2, ha, hd⟩ := tr_call2 ht
  obtain ⟨bp, rfl⟩ := isSelf_of hb
  obtain ⟨md, hmd, rfl⟩ := isMeth_of hm
  obtain ⟨⟨u, σ₁⟩, h1, he⟩ := bind_of he
  obtain ⟨⟨u₂, σ₂⟩, h2, he⟩ := bind_of he
  obtain ⟨z1, w1⟩ := iha e σ _ _ ha h1 hz
  obtain ⟨z2, w2⟩ := ihd f σ₁ _ _ hd h2 z1
  refine ⟨B.sz _ _ _ _ _ he z2, fun s Q E' R l h => call_self O EO R l hmd hl (by rw [plain_star hp, plain_star hp2]; rfl) ?_⟩
  obtain ⟨fd, _, hk, _⟩ := (O.meth m md hmd).fd
  exact callWith_meth (h₀ := x.h₀) rfl (O.X _ _ hk) (args_cons (w1 s _ _ R l fun y s₁ R₁ l₁ r₁ k₁ => args_cons (w2 s₁ _ _ R₁ l₁ fun y₂ s₂ R₂ l₂ r₂ k₂ => args_nil ⟨R₂.stays, wpAny_call (B.ok m [u, u₂] σ₂ v σ' he s₂ [y, y₂] _ R₂ (.cons (r₁.keeps R₁ k₂.away) (.cons r₂ .nil)) fun y s' R' r k =>
    h y s' R' (l₂.keeps R₂ k.away) r ((k₁.trans k₂).trans k))⟩) (plain_star hp2 env [])) (plain_star hp env [f])) (plain_star hp env [f])
theorem e_callV (i : Nat) : SE x A env vars ρ cf (.callV i) := fun ex σ v σ' ht he hz => by
  obtain ⟨n, p, q, rfl, hv⟩ := tr_callV ht
  refine bind_el he fun u hu he => ?_
  refine bind_el he fun m hm he => ?_
  cases V.meth?_of hm
  refine ⟨B.sz _ _ _ _ _ he hz, fun s Q E' R l h => Call_Name0 (load_var EO R l (isVar_of hv) hu fun y r => ?_)⟩
  obtain ⟨a, rfl, ga⟩ := r
  obtain ⟨md, hm⟩ := B.P _ _ _ _ he
  obtain ⟨fd, _, hk, _⟩ := (O.meth m md hm).fd
  exact callWith_M0 (K := x.K) (env := env) (g := x.fnA m) (self := .ref x.I) ⟨ga, X' O R⟩ (by unfold fnIn; rw [hk]) (wpAny_call (method_call ga (B.ok m [] σ v σ' he s [] _ R .nil fun y s' R' r k => h y s' R' (l.keeps R k.away) r k)))
include Z
theorem e_callT {i : E} (ih : SE x A env vars ρ cf i) : SE x A env vars ρ cf (.callT i) := fun ex σ v σ' ht he hz => by
  obtain ⟨b, p, e, q, sp, r, rfl, hb, hp, hi⟩ := tr_callT ht
  obtain ⟨bp, rfl⟩ := isSelf_of hb
  obtain ⟨k, σ₁, h1, he⟩ := onI_of he
  obtain ⟨h0, he⟩ := ite_of he
  refine bind_el he fun m hm he => ?_
  obtain ⟨z1, w1⟩ := ih e σ _ _ hi h1 hz
  obtain ⟨fa, cp, nf, hk⟩ := O.ins
  refine ⟨B.sz _ _ _ _ _ he z1, fun s Q E' R l h => Call_ (Subscript_ (Attribute_Name_ (load_self EO R l (get_lst O R fa hk cp nf (w1 _ _ _ R l fun y s₁ R₁ l₁ r₁ k₁ => ?_)))))⟩
  obtain ⟨t', rfl⟩ := r₁
  have hl : s₁.heap.IsList x.insA (x.c.instr.map fun m => Value.ref (x.fnA m)).toArray := ⟨_, R₁.stays _ _ (O.X _ _ hk), rfl, _, rfl⟩
  have hlt := (List.getElem?_eq_some_iff.mp hm).1
  have hi := Z.ins
  refine tail_any hl.typeIs slot_list_getitem.lookup (wpAny_getItem_list hl h0 (by lia) (x := .ref (x.fnA m)) (by simp [hm]) ?_) (plain_sub hp _ _)
  obtain ⟨md, hm⟩ := B.P _ _ _ _ he
  obtain ⟨fd, _, hk, _⟩ := (O.meth m md hm).fd
  exact callWith_meth (h₀ := x.h₀) (first := []) rfl (O.X _ _ hk) (args_cons (load_self EO R₁ l₁ (args_nil ⟨R₁.stays, wpAny_call (B.ok m [] σ₁ v σ' he s₁ [] _ R₁ .nil fun y s' R' r k => h y s' R' (l₁.keeps R₁ k.away) r ((Kp.tok.trans k₁).trans k))⟩)))
theorem sound_E : ∀ e : E, SE x A env vars ρ cf e
  | .int i => e_int i
  | .none => e_none
  | .var i => e_var EO i
  | .fld f => e_fld O EO f
  | .cst k => e_cst O EO k
  | .mref m => e_mref O EO m
  | .mem i => e_mem O EO (sound_E i)
  | .tab t i => e_tab O Z EO (sound_E i)
  | .bin op a b => e_bin (sound_E a) (sound_E b)
  | .inv a => e_inv (sound_E a)
  | .cmp op a b => e_cmp (sound_E a) (sound_E b)
  | .isNone i => e_isNone EO i
  | .isNoneF f => e_isNoneF O EO f
  | .txt => e_txt
  | .bool b => e_bool b
  | .stuck => fun _ _ _ _ _ he _ => nomatch he
  | .call0 m => e_call0 O EO B m
  | .call1 m a => e_call1 O EO B (sound_E a)
  | .call2 m a d => e_call2 O EO B (sound_E a) (sound_E d)
  | .callV i => e_callV O EO B i
  | .callT i => e_callT O Z EO B (sound_E i)
end
end Mine

end
section
open PySem PySem.W PyProof.Rows
set_option maxRecDepth 100000
set_option linter.unusedSimpArgs false
namespace Mine
section
variable {c : Cls} {vars : List Str} {st : Stmt}
theorem ts_expr {e : E} (h : trS c vars (.expr e) st = true) : ∃ ex p, st = .Expr ex p ∧ plainE ex = true ∧ trE c vars e ex = true := by
  replace h := inv_trS_expr h
  obtain ⟨_, _, rfl, h⟩ := h
  simp only [Bool.and_eq_true] at h
  exact ⟨_, _, rfl, h.1, h.2⟩
theorem ts_asgV {v : Nat} {e : E} (h : trS c vars (.asgV v e) st = true) : ∃ n q ex p, st = .Assign [.Name n q] ex p ∧ v ≠ 0 ∧ isVar vars v n = true ∧ plainE ex = true ∧ trE c vars e ex = true := by
  replace h := inv_trS_asgV h
  obtain ⟨_, _, _, _, rfl, h⟩ := h
  simp only [Bool.and_eq_true, bne_iff_ne] at h
  exact ⟨_, _, _, _, rfl, h.1.1.1, h.1.1.2, h.1.2, h.2⟩
theorem ts_asgF {f : Fld} {e : E} (h : trS c vars (.asgF f e) st = true) : ∃ b q ex p, st = .Assign [.Attribute b f.nm q] ex p ∧ isSelf b = true ∧ plainE ex = true ∧ trE c vars e ex = true := by
  replace h := inv_trS_asgF h
  obtain ⟨_, _, _, _, _, rfl, h⟩ := h
  simp only [Bool.and_eq_true, beq_iff_eq] at h
  obtain ⟨⟨⟨h1, rfl⟩, h2⟩, h3⟩ := h
  exact ⟨_, _, _, _, rfl, h1, h2, h3⟩
theorem ts_asgM {i e : E} (h : trS c vars (.asgM i e) st = true) : ∃ b q ei r ex p, st = .Assign [.Subscript (.Attribute b ("memory" : Str) q) ei r] ex p ∧ isSelf b = true ∧ plainE ei = true ∧ plainE ex = true ∧ trE c vars i ei = true ∧ trE c vars e ex = true := by
  replace h := inv_trS_asgM h
  obtain ⟨_, _, _, _, _, _, _, rfl, h⟩ := h
  simp only [Bool.and_eq_true, beq_iff_eq] at h
  obtain ⟨⟨⟨⟨⟨h1, rfl⟩, h2⟩, h3⟩, h4⟩, h5⟩ := h
  exact ⟨_, _, _, _, _, _, rfl, h1, h2, h3, h4, h5⟩
theorem ts_augV {v : Nat} {op : BOp} {e : E} (h : trS c vars (.augV v op e) st = true) : ∃ n q ex p, st = .AugAssign (.Name n q) op.op ex p ∧ v ≠ 0 ∧ isVar vars v n = true ∧ trE c vars e ex = true := by
  replace h := inv_trS_augV h
  obtain ⟨_, _, _, _, _, rfl, h⟩ := h
  simp only [Bool.and_eq_true, beq_iff_eq, bne_iff_ne] at h
  obtain ⟨⟨⟨h1, h2⟩, rfl⟩, h3⟩ := h
  exact ⟨_, _, _, _, rfl, h1, h2, h3⟩
theorem ts_augF {f : Fld} {op : BOp} {e : E} (h : trS c vars (.augF f op e) st = true) : ∃ b q ex p, st = .AugAssign (.Attribute b f.nm q) op.op ex p ∧ isSelf b = true ∧ trE c vars e ex = true := by
  replace h := inv_trS_augF h
  obtain ⟨_, _, _, _, _, _, rfl, h⟩ := h
  simp only [Bool.and_eq_true, beq_iff_eq] at h
  obtain ⟨⟨⟨h1, rfl⟩, rfl⟩, h3⟩ := h
  exact ⟨_, _, _, _, rfl, h1, h3⟩
theorem ts_ite {t : E} {a b : Ss} (h : trS c vars (.ite t a b) st = true) : ∃ ex l r p, st = .If ex l r p ∧ (cmpE t || plainT ex) = true ∧ trE c vars t ex = true ∧ trSs c vars a l = true ∧ trSs c vars b r = true := by
  replace h := inv_trS_ite h
  obtain ⟨_, _, _, _, rfl, h⟩ := h
  simp only [Bool.and_eq_true] at h
  exact ⟨_, _, _, _, rfl, h.1.1.1, h.1.1.2, h.1.2, h.2⟩
theorem ts_ret {e : E} (h : trS c vars (.ret e) st = true) : ∃ ex p, st = .Return (some ex) p ∧ trE c vars e ex = true := by
  replace h := inv_trS_ret h
  obtain ⟨_, _, rfl, h⟩ := h
  exact ⟨_, _, rfl, h⟩
theorem ts_ret0 (h : trS c vars .ret0 st = true) : ∃ p, st = .Return none p := by
  replace h := inv_trS_ret0 h
  obtain ⟨_, rfl, h⟩ := h
  exact ⟨_, rfl⟩
theorem ts_pass (h : trS c vars .pass st = true) : ∃ p, st = .Pass p := by
  replace h := inv_trS_pass h
  obtain ⟨_, rfl, h⟩ := h
  exact ⟨_, rfl⟩
end

section
variable {x : Cx} {σ : M} {h h' : Heap} {env : Env} {vars : List Str} {ρ : Loc}
theorem Rp.off {v : V} {y : Value} {a : Addr} (r : Rp x h v y) (k : Away [a] h h') (d : ∃ o es ep, h.get? a = some o ∧ o.data = .dict es ep) : Rp x h' v y := by
  cases v <;> try exact r
  obtain ⟨b, e, g⟩ := r
  refine ⟨b, e, k b _ g fun q => ?_⟩
  have := List.mem_singleton.mp q
  subst this
  obtain ⟨o, es, ep, e1, e2⟩ := d
  rw [g] at e1; cases e1; cases e2
theorem Mr.off {a : Addr} (R : Mr x σ h) (k : Away [a] h h') (d : ∃ o es ep, h.get? a = some o ∧ o.data = .dict es ep) (nD : a ≠ x.D) (nL : a ≠ x.L) (nI : a ≠ x.I) (nB : x.h₀.get? a = none) : Mr x σ h' := by
  have k' : ∀ b o, b ≠ a → h.get? b = some o → h'.get? b = some o := fun b o q e => k b o e (by simpa using q)
  obtain ⟨st, i, ⟨m, n, r, z⟩, ⟨its, ⟨o, nn, e, q⟩, ia⟩, sz⟩ := id R
  refine ⟨fun b o e => k' b o (fun q => by rw [q, nB] at e; cases e) (st b o e), k' _ _ (Ne.symm nI) i, ⟨m, n.at fun o e => k' _ o (Ne.symm nD) e, fun f => ?_, z⟩, ⟨its, ⟨o, nn, k' _ _ (Ne.symm nL) e, q⟩, ia⟩, sz⟩
  exact (r f).map fun v rv => rv.off k d
theorem Loc.at_set {v i : Nat} {u : V} (h : v < ρ.length) : Loc.at (ρ.set v (some u)) i = if i = v then some u else ρ.at i := by
  unfold Loc.at
  rw [List.getElem?_set]
  by_cases e : v = i
  · subst e; simp [h]
  · simp [e, Ne.symm e]
theorem ints_set : ∀ {vs : List Value} {ns : List Int} (_ : IntsAre vs ns) (i : Nat) (n : Int) (t : Tok), IntsAre (vs.set i (.int n t)) (ns.set i n)
  | _, _, .nil, _, _, _ => .nil
  | _, _, .cons k u r, 0, n, t => .cons n t r
  | _, _, .cons k u r, i + 1, n, t => .cons k u (ints_set r i n t)
end

section
variable {x : Cx} (O : Ok x) {A : Around} {env : Env} {vars : List Str} (EO : EnvOk env vars)
include EO in
theorem store_var {s : Shared} {σ : M} {ρ : Loc} (R : Mr x σ s.heap) (l : Lr x env vars ρ s.heap) {i : Nat} {n : Str} {u : V} {y : Value} (hi : vars[i]? = some n) (h0 : i ≠ 0) (r : Rp x s.heap u y) {Q : Unit → Shared → Prop} {E' : Value → Shared → Prop}
    (h : ∀ s', Mr x σ s'.heap → Lr x env vars (ρ.set i (some u)) s'.heap → Kp [x.D, x.L, env.locals] s s' → Q () s') : wpAny (model x.prog x.w) A (storeName env n y) Q E' s := by
  obtain ⟨m, ns, rs⟩ := l.ns
  have mem : n ∈ vars := List.mem_of_getElem? hi
  have hp : (env.scope.kind == .class || (env.scope.kind == .module && env.locals != env.globals)) = false := by rw [EO.kind]; rfl
  refine wpAny_storeName_local (EO.loc n mem) ns (fun h' ns' sb => ?_) hp
  have aw : Away [env.locals] s.heap h' := fun b o e q => by rw [sb.2 b (by simpa using q)]; exact e
  have dk := ns_kind ns
  have hlt : i < ρ.length := by rw [l.len]; exact (List.getElem?_eq_some_iff.mp hi).1
  refine h _ (R.off aw dk l.nD l.nL l.nI l.nB) ?_ ⟨h', _, rfl, aw.mono fun b hb => by simp at hb; simp [hb]⟩
  refine ⟨⟨_, ns', fun j nj vj hj hv => ?_⟩, l.nD, l.nL, l.nI, l.nB, by rw [List.length_set]; exact l.len, by rw [Loc.at_set hlt, if_neg (Ne.symm h0)]; exact l.self⟩
  rw [Loc.at_set hlt] at hv
  by_cases e : j = i
  · subst e
    rw [if_pos rfl] at hv
    cases hv
    rw [hi] at hj
    cases hj
    exact ⟨y, if_pos rfl, r.off aw dk⟩
  · rw [if_neg e] at hv
    obtain ⟨z, e1, e2⟩ := rs j nj vj hj hv
    refine ⟨z, ?_, e2.off aw dk⟩
    rw [if_neg ?_]; exact e1
    rintro rfl
    obtain ⟨a1, a2⟩ := List.getElem?_eq_some_iff.mp hi
    obtain ⟨b1, b2⟩ := List.getElem?_eq_some_iff.mp hj
    have nd := List.pairwise_iff_getElem.mp EO.nodup
    rcases Nat.lt_or_gt_of_ne e with q | q
    · exact nd j i b1 a1 q (b2.trans a2.symm)
    · exact nd i j a1 b1 q (a2.trans b2.symm)
include O in
theorem store_mem {s : Shared} {σ : M} (R : Mr x σ s.heap) {k v : Int} {u t : Tok} {ns : List Int} (hk : putAt σ.mem k v = some ns) (hz : σ.mem.length < 2 ^ 62) {Q : Unit → Shared → Prop} {E' : Value → Shared → Prop}
    (h : ∀ s', Mr x { σ with mem := ns } s'.heap → Kp [x.D, x.L] s s' → Q () s') : wpAny (model x.prog x.w) A (setItem (.ref x.L) (.int k u) (.int v t)) Q E' s := by
  unfold putAt at hk
  split at hk
  · rename_i q
    cases hk
    obtain ⟨its, il, ia⟩ := R.mem
    have hlen : its.size = σ.mem.length := by rw [← ia.length, Array.length_toList]
    refine set_plainL il q.1 (by lia) (by rw [hlen]; lia) fun h' il' sb => ?_
    have aw : Away [x.D, x.L] s.heap h' := fun b o e q => by rw [sb.2 b fun z => q (by simp [z])]; exact e
    have awL : ∀ b o, b ≠ x.L → s.heap.get? b = some o → h'.get? b = some o := fun b o q e => by rw [sb.2 b q]; exact e
    obtain ⟨st, i, ⟨m, n, r, z⟩, _, _⟩ := id R
    refine h _ ⟨fun b o e => awL b o (fun q => by rw [q, O.nL] at e; cases e) (st b o e), awL _ _ (fun q => ?_) i, ⟨m, n.at fun o e => awL _ o O.DL e, fun f => ?_, z⟩, ⟨_, il', ?_⟩, by show (List.set _ _ _).length < _; rw [List.length_set]; exact R.sz⟩ ⟨h', _, rfl, aw⟩
    · obtain ⟨o, k', e, _, _, d⟩ := il
      rw [← q, i] at e; cases e; cases d
    · have : (({ σ with mem := σ.mem.set k.toNat v } : M)).get f = σ.get f := by cases f <;> rfl
      rw [this]
      exact (r f).map fun y ry => ry.keeps R aw
    · rw [Array.toList_setIfInBounds]; exact ints_set ia _ _ _
  · cases hk
end
end Mine

end
section
open PySem PySem.W PyProof.Rows
set_option maxRecDepth 100000
set_option linter.unusedSimpArgs false
set_option linter.unusedVariables false
set_option linter.unusedSectionVars false
namespace Mine
noncomputable def FlR (x : Cx) (h : Heap) : Fl → Flow → Prop
  | .next, f => f = .next
  | .ret v, f => ∃ y, f = .ret y ∧ Rp x h v y
theorem V.flat_of {v u : V} (h : v.flat? = some u) : u = v ∧ v ≠ .unset ∧ ∀ (x : Cx) (h h' : Heap) (y : Value), Rp x h v y → Rp x h' v y := by
  cases v <;> cases h <;> exact ⟨rfl, (by intro q; cases q), fun _ _ _ _ r => r⟩
section
variable (x : Cx) (A : Around) (env : Env) (vars : List Str) (cf : Nat → List V → M → Option (V × M))
noncomputable abbrev PostS (fl : Fl) (ρ' : Loc) (σ' : M) (s : Shared) (Q : Flow → Shared → Prop) : Prop :=
  ∀ f s', Mr x σ' s'.heap → Lr x env vars ρ' s'.heap → FlR x s'.heap fl f → Kp [x.D, x.L, env.locals] s s' → Q f s'
noncomputable def WS (m : Sem Flow) (ρ : Loc) (σ : M) (fl : Fl) (ρ' : Loc) (σ' : M) : Prop := ∀ (s : Shared) (Q : Flow → Shared → Prop) (E' : Value → Shared → Prop), Mr x σ s.heap → Lr x env vars ρ s.heap → PostS x env vars fl ρ' σ' s Q → wpAny (model x.prog x.w) A m Q E' s
noncomputable def SS (st : S) : Prop := ∀ (t : Stmt) (ρ : Loc) (σ : M) (fl : Fl) (ρ' : Loc) (σ' : M), trS x.c vars st t = true → exS x.c cf st ρ σ = some (fl, ρ', σ') → σ.mem.length < 2 ^ 62 → σ'.mem.length < 2 ^ 62 ∧ WS x A env vars (exec t env) ρ σ fl ρ' σ'
noncomputable def SSs (st : Ss) : Prop := ∀ (t : List Stmt) (ρ : Loc) (σ : M) (fl : Fl) (ρ' : Loc) (σ' : M), trSs x.c vars st t = true → exSs x.c cf st ρ σ = some (fl, ρ', σ') → σ.mem.length < 2 ^ 62 → σ'.mem.length < 2 ^ 62 ∧ WS x A env vars (execs t env) ρ σ fl ρ' σ'
end
section
variable {x : Cx} (O : Ok x) (Z : Small x) {A : Around} {env : Env} {vars : List Str} (EO : EnvOk env vars) {cf : Nat → List V → M → Option (V × M)} (B : Below x A cf)
theorem truthy_of {s : Shared} {v : V} {y : Value} {b : Bool} {Q : Bool → Shared → Prop} {E' : Value → Shared → Prop} (r : Rp x s.heap v y) (t : truth v = some b) (h : Q b s) : wpAny (model x.prog x.w) A (truthy y) Q E' s := by
  cases v <;> cases t
  · obtain ⟨u, rfl⟩ := r; exact PyProof.Rows.truthy_int h
  · obtain rfl := r; exact wpAny_truthy_bool h
  · obtain rfl := r; exact truthy_none h
theorem exS_asgM {c : Cls} {i e : E} {ρ : Loc} {σ : M} : exS c cf (.asgM i e) ρ σ = onI (evE c cf ρ e σ) fun x σ₁ => cond σ₁.hm (onI (evE c cf ρ i σ₁) fun k σ₂ => (putAt σ₂.mem k x).map fun l => (.next, ρ, { σ₂ with mem := l })) none := rfl
theorem plainT_is {ex : PySem.Expr} (h : plainT ex = true) : isTrue ex env (eval ex env) = (do let v ← eval ex env; standAt ex.pos; holding [v] (truthy v)) := by
  cases ex <;> first | rfl | cases h
include O Z EO B in
theorem sound_T {ρ : Loc} (e : E) (ex : PySem.Expr) (σ : M) (v : V) (σ' : M) (b : Bool) (ht : trE x.c vars e ex = true) (hp : (cmpE e || plainT ex) = true) (he : evE x.c cf ρ e σ = some (v, σ')) (hb : truth v = some b) (hz : σ.mem.length < 2 ^ 62) : ∀ (s : Shared) (Q : Bool → Shared → Prop) (E' : Value → Shared → Prop),
    Mr x σ s.heap → Lr x env vars ρ s.heap → (∀ s', Mr x σ' s'.heap → Lr x env vars ρ s'.heap → Kp [x.D, x.L] s s' → Q b s') → wpAny (model x.prog x.w) A (isTrue ex env (eval ex env)) Q E' s := by
  have bb : ∀ {c : Bool}, v = .bool c → b = c := fun q => by rw [q] at hb; cases hb; rfl
  cases q : cmpE e with
  | false =>
    rw [q] at hp
    exact fun s Q E' R l h => isTrue_plain ((sound_E O Z EO B e ex σ v σ' ht he hz).2 s _ _ R l fun y s' R' l' r k => truthy_of r hb (h s' R' l' k)) (plainT_is hp)
  | true =>
    cases e <;> cases q
    · obtain ⟨el, er, p, c, rfl, hp, hv, z, w⟩ := e_cmp2 (sound_E O Z EO B _) (sound_E O Z EO B _) ht he hz
      obtain rfl := bb hv
      exact fun s Q E' R l h => wpAny_isTrue_Compare1 (w s _ _ R l fun s' R' l' k' => wpAny_truthy_bool (h s' R' l' k')) (plain_marks hp _)
    · obtain ⟨n, p, k, q, p', c, rfl, hv, rfl, w⟩ := e_isNone2 (A := A) (env := env) EO ht he
      obtain rfl := bb hv
      exact fun s Q E' R l h => wpAny_isTrue_Compare1 (w s _ _ R l (wpAny_truthy_bool (h s R l .refl))) rfl
    · obtain ⟨l, k, q, p', c, rfl, hv, rfl, w⟩ := e_isNoneF2 (A := A) (env := env) O EO ht he
      obtain rfl := bb hv
      exact fun s Q E' R l h => wpAny_isTrue_Compare1 (w s _ _ R l (wpAny_truthy_bool (h _ R l .tok))) rfl
theorem Kp.more {a b c : Addr} {s s' : Shared} (k : Kp [a, b] s s') : Kp [a, b, c] s s' := k.mono fun d hd => by
  rcases List.mem_cons.mp hd with h | h
  · exact h ▸ .head _
  · exact (List.mem_singleton.mp h) ▸ .tail _ (.head _)
theorem set_len {σ σ' : M} {f : Fld} {v : V} (h : σ.set f v = some σ') : σ'.mem.length = σ.mem.length := by rw [(M.get_set h).1]
theorem put_len {l l' : List Int} {k v : Int} (h : putAt l k v = some l') : l'.length = l.length := by
  obtain ⟨_, e⟩ := ite_of h
  cases e
  exact List.length_set
include O Z EO B
theorem s_expr (hi : interactive env = false) (e : E) : SS x A env vars cf (.expr e) := fun t ρ σ fl ρ' σ' ht he hz => by
  obtain ⟨ex, p, rfl, hp, hx⟩ := ts_expr ht
  obtain ⟨⟨v, σ₁⟩, h1, e1⟩ := map_of he
  cases e1
  obtain ⟨z1, w1⟩ := sound_E O Z EO B e ex σ _ _ hx h1 hz
  exact ⟨z1, fun s Q E' R l h => wpAny_Expr_any (w1 s _ _ R l fun y s' R' l' r k => h _ s' R' l' rfl k.more) hi (plain_swaps hp _ _ _)⟩
theorem s_asgV (v : Nat) (e : E) : SS x A env vars cf (.asgV v e) := fun t ρ σ fl ρ' σ' ht he hz => by
  obtain ⟨n, q, ex, p, rfl, h0, hv, hp, hx⟩ := ts_asgV ht
  obtain ⟨⟨u, σ₁⟩, h1, e1⟩ := bind_of he
  obtain ⟨_, e2⟩ := ite_of e1
  cases e2
  obtain ⟨z1, w1⟩ := sound_E O Z EO B e ex σ _ _ hx h1 hz
  exact ⟨z1, fun s Q E' R l h => wpAny_Assign_Name (w1 s _ _ R l fun y s' R' l' r k => store_var EO R' l' (isVar_of hv) h0 r fun s₂ R₂ l₂ k₂ => h _ s₂ R₂ l₂ rfl (k.more.trans k₂)) (plain_swaps hp _ _ _)⟩
theorem s_asgF (f : Fld) (e : E) : SS x A env vars cf (.asgF f e) := fun t ρ σ fl ρ' σ' ht he hz => by
  obtain ⟨b, q, ex, p, rfl, hb, hp, hx⟩ := ts_asgF ht
  obtain ⟨bp, rfl⟩ := isSelf_of hb
  obtain ⟨⟨u, σ₁⟩, h1, e1⟩ := bind_of he
  obtain ⟨u', hu, e2⟩ := bind_of e1
  obtain ⟨rfl, nu, fl⟩ := V.flat_of hu
  refine map_el e2 fun σ₂ h2 e3 => ?_
  cases e3
  obtain ⟨z1, w1⟩ := sound_E O Z EO B e ex σ _ _ hx h1 hz
  exact ⟨by rw [set_len h2]; exact z1, fun s Q E' R l h => plainObj_wpAny_Assign_Attribute (w1 s _ _ R l fun y s₁ R₁ l₁ r₁ k₁ => load_self EO R₁ l₁ (set_fld O R₁ h2 nu (fun h' => fl _ _ h' _ r₁) fun s₂ R₂ k₂ _ => h _ s₂ R₂ (l₁.keeps R₁ k₂.away) rfl (k₁.trans k₂).more)) (plain_swaps hp _ _ _)⟩
theorem s_asgM (i e : E) : SS x A env vars cf (.asgM i e) := fun t ρ σ fl ρ' σ' ht he hz => by
  obtain ⟨b, q, ei, r, ex, p, rfl, hb, hpi, hp, hxi, hx⟩ := ts_asgM ht
  obtain ⟨bp, rfl⟩ := isSelf_of hb
  obtain ⟨v, σ₁, h1, e1⟩ := onI_of (exS_asgM.symm.trans he)
  obtain ⟨hm, e1⟩ := cond_of e1
  obtain ⟨k, σ₂, h2, e2⟩ := onI_of e1
  refine map_el e2 fun ns h3 e3 => ?_
  cases e3
  obtain ⟨z1, w1⟩ := sound_E O Z EO B e ex σ _ _ hx h1 hz
  obtain ⟨z2, w2⟩ := sound_E O Z EO B i ei σ₁ _ _ hxi h2 z1
  refine ⟨by show ns.length < _; rw [put_len h3]; exact z2, fun s Q E' R l h => wpAny_Assign_Subscript (w1 s _ _ R l fun y s₁ R₁ l₁ r₁ k₁ => Attribute_Name_ (load_self EO R₁ l₁ (get_fld O R₁ .mem (hm_get hm ▸ fun q => nomatch q) fun y₁ ry => ?_))) (plain_swaps hp _ _ _)⟩
  obtain rfl : y₁ = .ref x.L := (hm_get hm ▸ ry :)
  refine w2 _ _ _ R₁ l₁ fun y₂ s₂ R₂ l₂ r₂ k₂ => ?_
  obtain ⟨t1, rfl⟩ := r₁
  obtain ⟨t2, rfl⟩ := r₂
  exact store_mem O R₂ h3 z2 fun s₃ R₃ k₃ => h _ s₃ R₃ (l₂.keeps R₂ k₃.away) rfl ((k₁.trans (Kp.tok.trans k₂)).trans k₃).more
theorem s_augV (v : Nat) (op : BOp) (e : E) : SS x A env vars cf (.augV v op e) := fun t ρ σ fl ρ' σ' ht he hz => by
  obtain ⟨n, q, ex, p, rfl, h0, hv, hx⟩ := ts_augV ht
  refine bind_el he fun u hu e0 => ?_
  refine bind_el e0 fun a ha e1 => ?_
  clear e0
  cases V.int?_of ha
  obtain ⟨b, σ₁, h1, e1⟩ := onI_of e1
  refine bind_el e1 fun r h2 e2 => ?_
  obtain ⟨_, e2⟩ := ite_of e2
  cases e2
  obtain ⟨z1, w1⟩ := sound_E O Z EO B e ex σ _ _ hx h1 hz
  refine ⟨z1, fun s Q E' R l h => wpAny_AugAssign_Name ?_⟩
  obtain ⟨m, ns, rs⟩ := l.ns
  obtain ⟨y, ey, ry⟩ := rs v n _ (isVar_of hv) hu
  refine wpAny_loadName_local EO.kind (EO.loc n (List.mem_of_getElem? (isVar_of hv))) ns ey (w1 s _ _ R l fun y₁ s₁ R₁ l₁ r₁ k₁ => ?_)
  obtain ⟨t1, rfl⟩ := ry
  obtain ⟨t2, rfl⟩ := r₁
  exact BOp.inplace h2 (store_var (s := { s₁ with toks := s₁.toks + 1 }) EO R₁ l₁ (isVar_of hv) h0 (u := .int r) ⟨_, rfl⟩ fun s₂ R₂ l₂ k₂ => h _ s₂ R₂ l₂ rfl ((k₁.trans Kp.tok).more.trans k₂))
theorem s_augF (f : Fld) (op : BOp) (e : E) : SS x A env vars cf (.augF f op e) := fun t ρ σ fl ρ' σ' ht he hz => by
  obtain ⟨b, q, ex, p, rfl, hb, hx⟩ := ts_augF ht
  obtain ⟨bp, rfl⟩ := isSelf_of hb
  refine bind_el he fun a ha e1 => ?_
  have ha := V.int?_of ha
  obtain ⟨b, σ₁, h1, e1⟩ := onI_of e1
  refine bind_el e1 fun r h2 e2 => ?_
  refine map_el e2 fun σ₂ h3 e3 => ?_
  cases e3
  obtain ⟨z1, w1⟩ := sound_E O Z EO B e ex σ _ _ hx h1 hz
  refine ⟨by rw [set_len h3]; exact z1, fun s Q E' R l h => wpAny_AugAssign_AttributeAny (load_self EO R l (get_fld O R f (ha ▸ fun q => nomatch q) fun y ry => w1 _ _ _ R l fun y₁ s₁ R₁ l₁ r₁ k₁ => ?_))⟩
  obtain ⟨t1, rfl⟩ : Rp x s.heap (.int a) y := ha ▸ ry
  obtain ⟨t2, rfl⟩ := r₁
  exact BOp.inplace h2 (set_fld (s := { s₁ with toks := s₁.toks + 1 }) O R₁ h3 (fun q => nomatch q) (fun _ => ⟨_, rfl⟩) fun s₂ R₂ k₂ _ => h _ s₂ R₂ (l₁.keeps R₁ k₂.away) rfl ((((Kp.tok.trans k₁).trans Kp.tok)).trans k₂).more)
theorem s_iteM {t : E} {a b : Ss} (ga : SSs x A env vars cf a) (gb : SSs x A env vars cf b) : SS x A env vars cf (.ite t a b) := fun st ρ σ fl ρ' σ' ht he hz => by
  obtain ⟨ex, tl, tr, p, rfl, hp, hx, ha, hb⟩ := ts_ite ht
  obtain ⟨⟨v, σ₁⟩, h1, e1⟩ := bind_of he
  refine bind_el e1 fun q hv e1 => ?_
  have z1 := (sound_E O Z EO B t ex σ _ _ hx h1 hz).1
  have key : ∀ {st : Ss} {l : List Stmt}, SSs x A env vars cf st → trSs x.c vars st l = true → exSs x.c cf st ρ σ₁ = some (fl, ρ', σ') → (∀ {Q E' s}, wpAny (model x.prog x.w) A (execs l env) Q E' s → if q then wpAny (model x.prog x.w) A (execs tl env) Q E' s else wpAny (model x.prog x.w) A (execs tr env) Q E' s) → σ'.mem.length < 2 ^ 62 ∧ WS x A env vars (exec (.If ex tl tr p) env) ρ σ fl ρ' σ' := fun g hl e2 eq => by
    obtain ⟨z2, w2⟩ := g _ ρ σ₁ fl ρ' σ' hl e2 z1
    exact ⟨z2, fun s Q E' R l h => wpAny_If (sound_T O Z EO B t ex σ v σ₁ q hx hp h1 hv hz s _ _ R l fun s₁ R₁ l₁ k₁ => eq (w2 s₁ _ _ R₁ l₁ fun f s₂ R₂ l₂ r₂ k₂ => h f s₂ R₂ l₂ r₂ (k₁.more.trans k₂)))⟩
  cases q
  · exact key gb hb e1 fun h => h
  · exact key ga ha e1 fun h => h
theorem s_retM (e : E) : SS x A env vars cf (.ret e) := fun t ρ σ fl ρ' σ' ht he hz => by
  obtain ⟨ex, p, rfl, hx⟩ := ts_ret ht
  obtain ⟨⟨v, σ₁⟩, h1, e1⟩ := map_of he
  cases e1
  obtain ⟨z1, w1⟩ := sound_E O Z EO B e ex σ _ _ hx h1 hz
  exact ⟨z1, fun s Q E' R l h => wpAny_Return_some (w1 s _ _ R l fun y s' R' l' r k => h _ s' R' l' ⟨y, rfl, r⟩ k.more)⟩
omit O Z EO B in
theorem s_ret0 : SS x A env vars cf .ret0 := fun t ρ σ fl ρ' σ' ht he hz => by
  obtain ⟨p, rfl⟩ := ts_ret0 ht
  cases he
  exact ⟨hz, fun s Q E' R l h => wpAny_Return_none (h _ s R l ⟨_, rfl, rfl⟩ .refl)⟩
omit O Z EO B in
theorem s_passM : SS x A env vars cf .pass := fun t ρ σ fl ρ' σ' ht he hz => by
  obtain ⟨p, rfl⟩ := ts_pass ht
  cases he
  exact ⟨hz, fun s Q E' R l h => wpAny_Pass (h _ s R l rfl .refl)⟩
omit O Z EO B in
theorem ss_nilM : SSs x A env vars cf .nil := fun t ρ σ fl ρ' σ' ht he hz => by
  cases t <;> cases ht
  cases he
  exact ⟨hz, fun s Q E' R l h => wpAny_execs_nil (h _ s R l rfl .refl)⟩
omit O Z EO B in
theorem ss_consM {a : S} {r : Ss} (ga : SS x A env vars cf a) (gr : SSs x A env vars cf r) : SSs x A env vars cf (.cons a r) := fun t ρ σ fl ρ' σ' ht he hz => by
  cases t with
  | nil => cases ht
  | cons st rest =>
    refine and_el ht fun h1 h2 => ?_
    obtain ⟨⟨f, ρ₁, σ₁⟩, h3, e3⟩ := bind_of he
    obtain ⟨z1, w1⟩ := ga st ρ σ f ρ₁ σ₁ h1 h3 hz
    cases f with
    | next =>
      obtain ⟨z2, w2⟩ := gr rest ρ₁ σ₁ fl ρ' σ' h2 e3 z1
      refine ⟨z2, fun s Q E' R l h => wpAny_execs_cons (w1 s _ _ R l fun f s₁ R₁ l₁ r₁ k₁ => ?_)⟩
      obtain rfl := r₁
      exact w2 s₁ _ _ R₁ l₁ fun f s₂ R₂ l₂ r₂ k₂ => h f s₂ R₂ l₂ r₂ (k₁.trans k₂)
    | ret v =>
      cases e3
      refine ⟨z1, fun s Q E' R l h => wpAny_execs_cons (w1 s _ _ R l fun f s₁ R₁ l₁ r₁ k₁ => ?_)⟩
      obtain ⟨y, rfl, ry⟩ := r₁
      exact h _ s₁ R₁ l₁ ⟨y, rfl, ry⟩ k₁
mutual
theorem sound_S (hi : interactive env = false) : ∀ st : S, SS x A env vars cf st
  | .expr e => s_expr O Z EO B hi e
  | .asgV v e => s_asgV O Z EO B v e
  | .asgF f e => s_asgF O Z EO B f e
  | .asgM i e => s_asgM O Z EO B i e
  | .augV v op e => s_augV O Z EO B v op e
  | .augF f op e => s_augF O Z EO B f op e
  | .ite _ a b => s_iteM O Z EO B (sound_Ss hi a) (sound_Ss hi b)
  | .ret e => s_retM O Z EO B e
  | .ret0 => s_ret0
  | .pass => s_passM
theorem sound_Ss (hi : interactive env = false) : ∀ st : Ss, SSs x A env vars cf st
  | .nil => ss_nilM
  | .cons a r => ss_consM (sound_S hi a) (sound_Ss hi r)
end
end
end Mine

end
section
open PySem PySem.W PyProof.Rows
set_option maxRecDepth 100000
namespace Mine
theorem lookup_nodup {β : Type} : ∀ {l : List (Str × β)} {n : Str} {y : β}, (l.map (·.1)).Nodup → (n, y) ∈ l → l.lookup n = some y
  | (k, z) :: l, n, y, nd, h => by
    rw [List.map_cons, List.nodup_cons] at nd
    rcases List.mem_cons.mp h with e | h
    · cases e; rw [List.lookup_cons, beq_self_eq_true]
    · have : n ≠ k := fun q => nd.1 (by rw [← q]; exact List.mem_map_of_mem (f := (·.1)) h)
      rw [List.lookup_cons, beq_eq_false_iff_ne.mpr this]
      exact lookup_nodup nd.2 h
theorem Rps.length {x : Cx} {h : Heap} : ∀ {vs : List V} {ys : List Value}, Rps x h vs ys → ys.length = vs.length
  | _, _, .nil => rfl
  | _, _, .cons _ r => by rw [List.length_cons, List.length_cons, r.length]
theorem Rps.at {x : Cx} {h : Heap} : ∀ {vs : List V} {ys : List Value} (_ : Rps x h vs ys) (i : Nat) (v : V), vs[i]? = some v → ∃ y, ys[i]? = some y ∧ Rp x h v y
  | _, _, .cons r _, 0, v, e => by cases e; exact ⟨_, rfl, r⟩
  | _, _, .cons _ r, i + 1, v, e => by simpa using r.at i v (by simpa using e)
  | _, _, .nil, _, _, e => by simp at e
theorem Rps.grow {x : Cx} {σ : M} {h h' : Heap} (R : Mr x σ h) (k : ∀ b o, h.get? b = some o → h'.get? b = some o) : ∀ {vs : List V} {ys : List Value}, Rps x h vs ys → Rps x h' vs ys
  | _, _, .nil => .nil
  | _, _, .cons r t => .cons (r.keeps R fun b o e _ => k b o e) (t.grow R k)

theorem loc_start {args : List V} {k i : Nat} {u : V} (h : Loc.at ((some V.self :: args.map some) ++ List.replicate k none) i = some u) : (V.self :: args)[i]? = some u := by
  unfold Loc.at at h
  have e : (some V.self :: args.map some) = (V.self :: args).map some := rfl
  rw [e] at h
  by_cases q : i < (V.self :: args).length
  · rw [List.getElem?_append_left (by rw [List.length_map]; exact q), List.getElem?_map] at h
    cases z : (V.self :: args)[i]? with
    | none => rw [z] at h; cases h
    | some w => rw [z] at h; simpa using h
  · rw [List.getElem?_append_right (by rw [List.length_map]; lia), List.getElem?_replicate] at h
    split at h <;> cases h
section
variable {x : Cx} (O : Ok x) (Z : Small x)
theorem env_ok {m : Nat} {md : MethD} (mo : MethOk x m md) {fd : FuncData} (hk : fd.scope.kind = .function) (hl : ∀ v ∈ md.vars, fd.scope.names.lookup v = some .local) (L a : Addr) : EnvOk (callEnv fd L a) md.vars :=
  ⟨hk, hl, mo.nodup, mo.nodbg, mo.self⟩
theorem call_parts {x : Cx} {d m : Nat} {args : List V} {σ : M} {v : V} {σ' : M} (he : callM x.c (d + 1) m args σ = some (v, σ')) : ∃ md fl ρ', x.c.P[m]? = some md ∧ args.length + 1 = md.np ∧
        exSs x.c (callM x.c d) md.body ((some V.self :: args.map some) ++ List.replicate (md.vars.length - md.np) none) σ = some (fl, ρ', σ') ∧ fl.out = v := by
  refine bind_el he fun md hm he => ?_
  obtain ⟨hn, he⟩ := ite_of he
  obtain ⟨⟨fl, ρ', σ₁⟩, h, e⟩ := map_of he
  cases e
  exact ⟨md, fl, ρ', hm, hn, h, rfl⟩
include O Z in
theorem call_args {d : Nat} {A : Around} (hd : A.depth + (d + 1) ≤ recursionLimit) (Bd : ∀ A' : Around, A'.depth + d ≤ recursionLimit → Below x A' (callM x.c d)) {m : Nat} {args : List V} {σ : M} {v : V} {σ' : M} (he : callM x.c (d + 1) m args σ = some (v, σ'))
    {as : Args} {vals : List Value} {s : Shared} {R : Result → Shared → Prop} (hbind : ∀ (fd : FuncData) (md : MethD), x.c.P[m]? = some md → x.K.lookup (x.fnA m) = some ⟨.type "function", none, .func fd, #[]⟩ → (Value.ref x.I :: vals).length = md.np → BindsTo s fd as ((md.vars.take md.np).zip (.ref x.I :: vals)))
    (Rm : Mr x σ s.heap) (rps : Rps x s.heap args vals) (post : ∀ y s', Mr x σ' s'.heap → Rp x s'.heap v y → Kp [x.D, x.L] s s' → R (.ok (.ret y)) s') : codeAny (model x.prog x.w) A (.call (.ref (x.fnA m)) as) R s := by
  obtain ⟨md, fl, ρ', hm, hn, hx, hv⟩ := call_parts he
  have mo := O.meth m md hm
  obtain ⟨fd, b, hk, hb, ht, k1, k2, k3, k4, k5, k6, k7⟩ := mo.fd
  have hlen : (Value.ref x.I :: vals).length = md.np := by rw [List.length_cons, rps.length]; exact hn
  have XI := X' O Rm
  refine codeAny_call_def (fd := fd) (body := b) (binds := (md.vars.take md.np).zip (.ref x.I :: vals)) (by lia) (XI _ _ hk) rfl (O.lim.keeps Rm.stays) (codeRec_of XI k6) hb (hbind fd md hm hk hlen) k4 ?_ (fun h₁ ns hk₁ => ?_) k3 k2 k1
  · intro y hy
    exact k5 _ (List.mem_of_mem_take (List.of_mem_zip hy).1)
  · have Bd := Bd (A.deeper (callEnv fd s.heap.objs.size (x.fnA m))) (by show A.depth + 1 + d ≤ _; lia)
    have EO := env_ok mo k1 k5 s.heap.objs.size (x.fnA m)
    have hz := Rm.sz
    have hi : interactive (callEnv fd s.heap.objs.size (x.fnA m)) = false := by
      show (fd.scope.kind == .module && _) = false
      rw [k1]; rfl
    have w := (sound_Ss O Z EO Bd hi md.body b _ σ fl ρ' σ' ht hx hz).2
    have R₁ : Mr x σ h₁ := Rm.grow hk₁
    refine w _ _ _ R₁ ?_ fun f s' R' l' r' k' => ?_
    · obtain ⟨mD, nD, _⟩ := Rm.ns
      obtain ⟨its, ⟨oL, _, eL, _⟩, _⟩ := Rm.mem
      refine ⟨⟨_, ns, fun i n u hi hu => ?_⟩, Ne.symm (Nat.ne_of_lt nD.lt), Ne.symm (Nat.ne_of_lt (Heap.lt_size eL)), Ne.symm (Nat.ne_of_lt (Heap.lt_size Rm.inst)), ?_, ?_, rfl⟩
      · have hu' : (V.self :: args)[i]? = some u := loc_start hu
        obtain ⟨y, hy, ry⟩ := (Rps.cons (x := x) (h := s.heap) (v := .self) rfl rps).at i u hu'
        refine ⟨y, ?_, ry.keeps Rm fun b o e _ => hk₁ b o e⟩
        have hil : i < md.np := by rw [← hlen]; exact (List.getElem?_eq_some_iff.mp hy).1
        refine lookup_nodup ?_ (List.mem_reverse.mpr ?_)
        · rw [List.map_reverse]
          refine List.pairwise_reverse.mpr (List.Pairwise.imp (fun h => Ne.symm h) ?_)
          exact (List.Sublist.nodup · mo.nodup) (((List.map_fst_zip (l₁ := md.vars.take md.np) (l₂ := Value.ref x.I :: vals) (by rw [hlen, List.length_take]; lia)).symm ▸ List.take_sublist _ _))
        · refine List.mem_of_getElem? (i := i) ?_
          rw [List.getElem?_zip_eq_some]
          exact ⟨by rw [List.getElem?_take_of_lt hil]; exact hi, hy⟩
      · cases q : x.h₀.get? s.heap.objs.size with
        | none => exact q
        | some o => exact absurd (Heap.lt_size (Rm.stays _ _ q)) (Nat.lt_irrefl _)
      · have := mo.npLe
        simp only [List.length_append, List.length_cons, List.length_map, List.length_replicate]
        lia
    · have kk : Kp [x.D, x.L] s s' := by
        obtain ⟨h', t', rfl, aw⟩ := k'
        refine ⟨h', t', rfl, fun b o e q => aw b o (hk₁ b o e) fun z => ?_⟩
        simp only [List.mem_cons, List.not_mem_nil, or_false, not_or] at q z
        rcases z with z | z | z
        · exact q.1 z
        · exact q.2 z
        · exact absurd (Heap.lt_size e) (by rw [z]; exact Nat.lt_irrefl _)
      cases fl with
      | next => obtain rfl := r'; subst hv; exact post _ s' R' rfl kk
      | ret u => obtain ⟨y, rfl, ry⟩ := r'; subst hv; exact post _ s' R' ry kk
include O Z in
theorem sound_call : ∀ (d : Nat) (A : Around), A.depth + d ≤ recursionLimit → Below x A (callM x.c d)
  | 0, A, _ => by
    have no : ∀ m args σ, callM x.c 0 m args σ = none := fun _ _ _ => rfl
    exact ⟨fun _ _ _ _ _ he => (by rw [no] at he; cases he), fun _ _ _ _ he => (by rw [no] at he; cases he), fun _ _ _ _ _ he => (by rw [no] at he; cases he)⟩
  | d + 1, A, hd => by
    refine ⟨fun m args σ v σ' he s vals R Rm rps post => ?_, fun m args σ r he => ?_, fun m args σ v σ' he hz => ?_⟩
    · refine call_args O Z hd (fun A' h => sound_call d A' h) he (vals := vals) (fun fd md hm hk hlen => ?_) Rm rps post
      obtain ⟨fd', b, hk', _, _, _, _, _, _, _, _, k7⟩ := (O.meth m md hm).fd
      rw [hk] at hk'; cases hk'
      exact k7 _ _ (X' O Rm) hlen
    · obtain ⟨v, σ'⟩ := r
      obtain ⟨md, _, _, hm, _⟩ := call_parts he
      exact ⟨md, hm⟩
    · obtain ⟨md, fl, ρ', hm, hn, hx, hv⟩ := call_parts he
      have mo := O.meth m md hm
      obtain ⟨fd, b, hk, hb, ht, k1, k2, k3, k4, k5, k6, k7⟩ := mo.fd
      have Bd := sound_call d (A.deeper (callEnv fd 0 (x.fnA m))) (by show A.depth + 1 + d ≤ _; lia)
      have hi : interactive (callEnv fd 0 (x.fnA m)) = false := by
        show (fd.scope.kind == .module && _) = false
        rw [k1]; rfl
      exact (sound_Ss O Z (env_ok mo k1 k5 0 (x.fnA m)) Bd hi md.body b _ σ fl ρ' σ' ht hx hz).1
end
end Mine

end
section
open PySem PySem.W PyProof.Rows
set_option linter.unusedVariables false
set_option maxRecDepth 100000
namespace Mine
inductive At where
  | int (i : Int) | bool (b : Bool) | none | ints (xs : List Int)
inductive LV where
  | at (a : At)
  | tup (xs : List At)
  | rows (xs : List (List At))
  | lists (xs : List (List Int))
  | own (xs : List Int)
  | ownR (xs : List (List At))
  | mpu (σ : M) (mv : Nat)
noncomputable abbrev LV.int (i : Int) : LV := .at (.int i)
noncomputable abbrev LV.bool (b : Bool) : LV := .at (.bool b)
noncomputable abbrev LV.ints (xs : List Int) : LV := .at (.ints xs)
inductive LOp where
  | add | sub | mul | fdiv | mod | pow
  deriving DecidableEq
mutual
inductive LE where
  | int (i : Int)
  | bool (b : Bool)
  | none
  | var (v : Nat)
  | own (v : Nat)
  | bin (op : LOp) (a b : LE)
  | cmp (op : COp) (a b : LE)
  | and (a b : LE)
  | or (a b : LE)
  | not (a : LE)
  | idx (a i : LE)
  | slc (a lo hi : LE)
  | len (a : LE)
  | sorted (a : LE)
  | disp (es : LEs)
  | tup (es : LEs)
  | attr (v : Nat) (f : Fld)
  | call (f : Nat) (es : LEs)
  | comp (elt : LE) (caps : List Nat) (src : LSrc)
inductive LEs where
  | nil
  | cons (e : LE) (r : LEs)
inductive LSrc where
  | rng (e : LE)
  | lst (e : LE)
end
inductive LTg where
  | one (v : Nat)
  | many (vs : List Nat)
inductive LT where
  | name (v : Nat)
  | sub (v : Nat) (i : LE)
mutual
inductive LS where
  | asg (v : Nat) (e : LE)
  | asgC (v : Nat) (e : LE)
  | newl (v : Nat) (e : LE)
  | asgT (rev : Bool) (ts : List LT) (es : LEs)
  | sub (v : Nat) (i e : LE)
  | asgN (ts : List LT) (e : LE)
  | aug (v : Nat) (op : LOp) (e : LE)
  | step (v m : Nat)
  | mk (v mv : Nat) (e : LE)
  | ite (t : LE) (a b : LSs)
  | for (tg : LTg) (src : LSrc) (b : LSs)
  | forE (vs : List Nat) (e : LE) (b : LSs)
  | brk
  | ret (e : LE)
inductive LSs where
  | nil
  | cons (s : LS) (r : LSs)
end
noncomputable def lim : Nat := 2 ^ 20

noncomputable def LOp.ev : LOp → Int → Int → Option Int
  | .add, a, b => some (a + b)
  | .sub, a, b => some (a - b)
  | .mul, a, b => if a.natAbs < 2 ^ 63 ∨ b.natAbs < 2 ^ 63 then some (a * b) else Option.none
  | .fdiv, a, b => if b ≠ 0 ∧ b.natAbs < 1073741824 then some (a.fdiv b) else Option.none
  | .mod, a, b => if b ≠ 0 then some (a.fmod b) else Option.none
  | .pow, a, b => if 0 ≤ b ∧ b ≤ 64 ∧ a.natAbs < 2 ^ 64 then some (a ^ b.toNat) else Option.none
section
variable {α β : Type}
noncomputable def mapO (f : α → Option β) : List α → Option (List β)
  | [] => some []
  | a :: l => (f a).bind fun b => (mapO f l).map fun r => b :: r
noncomputable def alt (o : Option α) (f : α → Option β) (g : Option β) : Option β := match o with
  | some a => f a
  | Option.none => g
theorem alt_of {o : Option α} {f : α → Option β} {g : Option β} {r : β} (h : alt o f g = some r) : (∃ a, o = some a ∧ f a = some r) ∨ g = some r := by
  cases o with
  | none => exact .inr h
  | some a => exact .inl ⟨a, rfl, h⟩
end
noncomputable def LV.int? : LV → Option Int
  | .at (.int i) => some i
  | _ => Option.none
noncomputable def LV.bool? : LV → Option Bool
  | .at (.bool i) => some i
  | _ => Option.none
noncomputable def LV.at? : LV → Option At
  | .at a => some a
  | _ => Option.none
noncomputable def LV.tup? : LV → Option (List At)
  | .tup xs => some xs
  | _ => Option.none
noncomputable def LV.ints? : LV → Option (List Int)
  | .at (.ints xs) => some xs
  | _ => Option.none
noncomputable def LV.rows? : LV → Option (List (List At))
  | .rows xs => some xs
  | _ => Option.none
noncomputable def LV.lists? : LV → Option (List (List Int))
  | .lists xs => some xs
  | _ => Option.none
noncomputable def LV.own? : LV → Option (List Int)
  | .own xs => some xs
  | _ => Option.none
noncomputable def LV.ownR? : LV → Option (List (List At))
  | .ownR xs => some xs
  | _ => Option.none
noncomputable def LV.mpu? : LV → Option (M × Nat)
  | .mpu σ mv => some (σ, mv)
  | _ => Option.none
noncomputable def stable : LV → Bool
  | .own _ => false
  | .ownR _ => false
  | .mpu _ _ => false
  | _ => true
noncomputable def Ow : LV → Bool
  | .own _ => true
  | .ownR _ => true
  | _ => false
theorem LV.int?_of {x : LV} {i : Int} (h : x.int? = some i) : x = .int i := by
  cases x with
  | «at» a => cases a <;> cases h; rfl
  | _ => cases h
theorem LV.bool?_of {x : LV} {i : Bool} (h : x.bool? = some i) : x = .bool i := by
  cases x with
  | «at» a => cases a <;> cases h; rfl
  | _ => cases h
theorem LV.ints?_of {x : LV} {i : List Int} (h : x.ints? = some i) : x = .ints i := by
  cases x with
  | «at» a => cases a <;> cases h; rfl
  | _ => cases h
theorem LV.at?_of {x : LV} {i : At} (h : x.at? = some i) : x = .at i := by cases x <;> cases h; rfl
theorem LV.tup?_of {x : LV} {i : List At} (h : x.tup? = some i) : x = .tup i := by cases x <;> cases h; rfl
theorem LV.rows?_of {x : LV} {i : List (List At)} (h : x.rows? = some i) : x = .rows i := by cases x <;> cases h; rfl
theorem LV.lists?_of {x : LV} {i : List (List Int)} (h : x.lists? = some i) : x = .lists i := by cases x <;> cases h; rfl
theorem LV.own?_of {x : LV} {i : List Int} (h : x.own? = some i) : x = .own i := by cases x <;> cases h; rfl
theorem LV.mpu?_of {x : LV} {p : M × Nat} (h : x.mpu? = some p) : x = .mpu p.1 p.2 := by cases x <;> cases h; rfl
noncomputable abbrev asInt := LV.int?
noncomputable abbrev asAt := LV.at?
noncomputable abbrev asTup := LV.tup?
noncomputable abbrev asInts := LV.ints?
noncomputable def repeatL (xs : List Int) (n : Nat) : List Int := (List.replicate n xs).flatten
noncomputable def LV.rowsE? : LV → Option (List (List At))
  | .rows xs => some xs
  | .at (.ints []) => some []
  | _ => Option.none
theorem LV.rowsE?_of {x : LV} {i : List (List At)} (h : x.rowsE? = some i) : x = .rows i ∨ (x = .ints [] ∧ i = []) := by
  cases x with
  | rows xs => cases h; exact .inl rfl
  | «at» a =>
    cases a with
    | «ints» l => cases l <;> cases h; exact .inr ⟨rfl, rfl⟩
    | _ => cases h
  | _ => cases h
noncomputable def orO {α : Type} (a b : Option α) : Option α := match a with
  | some x => some x
  | Option.none => b
theorem orO_of {α : Type} {a b : Option α} {r : α} (h : orO a b = some r) : a = some r ∨ b = some r := by
  cases a with
  | none => exact .inr h
  | some x => exact .inl h
noncomputable def binV (op : LOp) (x y : LV) : Option LV := alt x.int? (fun a => y.int?.bind fun b => (op.ev a b).map LV.int)
  (orO (x.ints?.bind fun xs => alt y.ints? (fun ys => if op = .add ∧ (xs ++ ys).length ≤ lim then some (.ints (xs ++ ys)) else Option.none)
    (y.int?.bind fun n => if op = .mul ∧ 0 ≤ n ∧ n ≤ lim ∧ xs.length * n.toNat ≤ lim then some (.ints (repeatL xs n.toNat)) else Option.none))
    (x.rowsE?.bind fun xs => y.rowsE?.bind fun ys => if op = .add ∧ (xs ++ ys).length ≤ lim then some (.rows (xs ++ ys)) else Option.none))
noncomputable def At.int? : At → Option Int
  | .int i => some i
  | _ => Option.none
theorem At.int?_of {x : At} {i : Int} (h : x.int? = some i) : x = .int i := by cases x <;> cases h; rfl
noncomputable def atsInts : List At → Option (List Int) := mapO At.int?
noncomputable def eqOp : COp → Bool → Option Bool
  | .eq, b => some b
  | .ne, b => some (!b)
  | _, _ => Option.none
noncomputable def cmpV (op : COp) (x y : LV) : Option Bool := alt x.int? (fun a => y.int?.map fun b => op.ev a b) (alt x.ints? (fun xs => y.ints?.bind fun ys => eqOp op (xs == ys))
  (x.tup?.bind fun xs => y.tup?.bind fun ys => (atsInts xs).bind fun a => (atsInts ys).bind fun b => eqOp op (a == b)))
noncomputable def truthL : LV → Option Bool
  | .at (.int i) => some (i != 0)
  | .at (.bool b) => some b
  | .at .none => some false
  | .at (.ints xs) => some (!xs.isEmpty)
  | _ => Option.none
noncomputable def pick {α : Type} (l : List α) (k : Int) : Option α := if 0 ≤ k then l[k.toNat]? else if 0 ≤ k + l.length then l[(k + l.length).toNat]? else Option.none
noncomputable def idxV (x y : LV) : Option LV := y.int?.bind fun k => alt x.ints? (fun xs => (pick xs k).map LV.int) (alt x.lists? (fun xs => (pick xs k).map LV.ints) (x.rows?.bind fun xs => (pick xs k).map LV.tup))
noncomputable def cutI (xs : List Int) (lo hi : Option Int) : List Int := (xs.drop (lo.elim 0 (clipAt xs.length))).take (hi.elim xs.length (clipAt xs.length) - lo.elim 0 (clipAt xs.length))
noncomputable def part : LV → Option (Option Int)
  | .at .none => some Option.none
  | .at (.int i) => some (some i)
  | _ => Option.none
noncomputable def slcV (x lo hi : LV) : Option LV := x.ints?.bind fun xs => (part lo).bind fun l => (part hi).map fun h => .ints (cutI xs l h)
noncomputable def dispV (vs : List LV) : Option LV := if vs.length ≤ lim then alt (mapO asInt vs) (fun xs => some (.ints xs)) (alt (mapO asTup vs) (fun xs => some (.rows xs)) ((mapO asInts vs).map LV.lists)) else Option.none
noncomputable abbrev LLoc := List (Option LV)
noncomputable def LLoc.at (ρ : LLoc) (v : Nat) : Option LV := (ρ[v]?).join
noncomputable def readV (ρ : LLoc) (v : Nat) : Option LV := (ρ.at v).bind fun x => cond (stable x) (some x) Option.none
noncomputable def maskL (caps : List Nat) (ρ : LLoc) : LLoc := (List.range ρ.length).map fun i => cond (caps.contains i) (readV ρ i) Option.none
noncomputable def srcItems (x : LV) : Option (List LV) := alt x.ints? (fun xs => some (xs.map LV.int)) (x.rows?.map fun xs => xs.map LV.tup)
noncomputable def rngItems (n : Int) : Option (List LV) := if -(2 ^ 40) ≤ n ∧ n ≤ lim then some ((List.range n.toNat).map fun i : Nat => LV.int (i : Int)) else Option.none

noncomputable def setL (ρ : LLoc) (v : Nat) (x : LV) : Option LLoc := if v < ρ.length then some (ρ.set v (some x)) else Option.none
noncomputable def free (ρ : LLoc) (v : Nat) : Bool := ρ.all fun o => (o.bind LV.mpu?).all fun p => !Nat.beq p.2 v
noncomputable def putV (ρ : LLoc) (v : Nat) (x : LV) : Option LLoc := cond (stable x && free ρ v) (setL ρ v x) Option.none
noncomputable def bindTs : List Nat → List At → LLoc → Option LLoc
  | [], [], ρ => some ρ
  | v :: vs, x :: xs, ρ => (putV ρ v (.at x)).bind fun ρ' => bindTs vs xs ρ'
  | _, _, _ => Option.none
noncomputable def insS (x : Int) : List Int → List Int
  | [] => [x]
  | y :: r => cond (decide (x ≤ y)) (x :: y :: r) (y :: insS x r)
noncomputable def sortS : List Int → List Int
  | [] => []
  | x :: r => insS x (sortS r)
section
variable (cf : Nat → List LV → Option LV)
mutual
noncomputable def evL : LE → LLoc → Option LV
  | .int i, _ => some (.int i)
  | .bool b, _ => some (.bool b)
  | .none, _ => some (.at .none)
  | .var v, ρ => readV ρ v
  | .own v, ρ => (ρ.at v).bind fun u => u.own?.map LV.ints
  | .bin op a b, ρ => (evL a ρ).bind fun x => (evL b ρ).bind fun y => binV op x y
  | .cmp op a b, ρ => (evL a ρ).bind fun x => (evL b ρ).bind fun y => (cmpV op x y).map LV.bool
  | .and a b, ρ => (evL a ρ).bind fun x => x.bool?.bind fun q => cond q (evL b ρ) (some (.bool false))
  | .or a b, ρ => (evL a ρ).bind fun x => x.bool?.bind fun q => cond q (some (.bool true)) (evL b ρ)
  | .not a, ρ => (evL a ρ).bind fun v => (truthL v).map fun b => LV.bool (!b)
  | .idx a i, ρ => (evL a ρ).bind fun x => (evL i ρ).bind fun y => idxV x y
  | .slc a lo hi, ρ => (evL a ρ).bind fun x => (evL lo ρ).bind fun l => (evL hi ρ).bind fun h => slcV x l h
  | .len a, ρ => (evL a ρ).bind fun x => x.ints?.map fun xs => LV.int xs.length
  | .sorted a, ρ => (evL a ρ).bind fun x => x.ints?.bind fun xs => cond (Nat.blt xs.length 64) (some (LV.ints (sortS xs))) Option.none
  | .disp es, ρ => (evLs es ρ).bind fun vs => dispV vs
  | .tup es, ρ => (evLs es ρ).bind fun vs => if vs.length ≤ lim then (mapO asAt vs).map LV.tup else Option.none
  | .attr v f, ρ => (ρ.at v).bind fun u => u.mpu?.bind fun p => (p.1.get f).int?.map LV.int
  | .call f es, ρ => (evLs es ρ).bind fun vs => cf f vs
  | .comp elt caps src, ρ => (evSrc src ρ).bind fun items => (mapO asInt items).bind fun _ => (mapO (fun it => (evL elt (maskL caps ρ ++ [some it])).bind LV.int?) items).map LV.ints
noncomputable def evLs : LEs → LLoc → Option (List LV)
  | .nil, _ => some []
  | .cons e r, ρ => (evL e ρ).bind fun v => (evLs r ρ).map fun vs => v :: vs
noncomputable def evSrc : LSrc → LLoc → Option (List LV)
  | .rng e, ρ => (evL e ρ).bind fun x => x.int?.bind fun n => rngItems n
  | .lst e, ρ => (evL e ρ).bind fun v => srcItems v
end
end

inductive LFl where
  | next | brk
  | ret (v : LV)
noncomputable def LFl.turn {β : Type} (fl : LFl) (ρ : LLoc) (rest : LLoc → Option β) (out : LFl → LLoc → β) : Option β := match fl with
  | .next => rest ρ
  | .brk => some (out .next ρ)
  | .ret v => some (out (.ret v) ρ)
noncomputable def putSl (xs : List Int) (lo hi : Option Int) (ys : List Int) : List Int := xs.take (lo.elim 0 (clipAt xs.length)) ++ ys ++ xs.drop (max (lo.elim 0 (clipAt xs.length)) (hi.elim xs.length (clipAt xs.length)))
noncomputable def putOwn (ρ : LLoc) (v : Nat) (xs : List Int) : Option LLoc := cond (free ρ v) (setL ρ v (.own xs)) Option.none
noncomputable def bindTg : LTg → LV → LLoc → Option LLoc
  | .one v, x, ρ => putV ρ v x
  | .many vs, x, ρ => x.tup?.bind fun xs => bindTs vs xs ρ
noncomputable def putSub (ρ : LLoc) (v : Nat) (k x : Int) : Option LLoc := (ρ.at v).bind fun u => u.own?.bind fun xs => (putAt xs k x).bind fun ys => setL ρ v (.own ys)
noncomputable def enumItems : Nat → List Int → List LV
  | _, [] => []
  | i, x :: l => .tup [.int (i : Int), .int x] :: enumItems (i + 1) l
noncomputable def forL (bind : LV → LLoc → Option LLoc) (body : LLoc → Option (LFl × LLoc)) : List LV → LLoc → Option (LFl × LLoc)
  | [], ρ => some (.next, ρ)
  | v :: r, ρ => (bind v ρ).bind fun ρ₁ => (body ρ₁).bind fun q => q.1.turn q.2 (forL bind body r) Prod.mk
noncomputable def unsetM : M := ⟨.unset, .unset, .unset, .unset, .unset, .unset, .unset, .unset, .unset, .unset, .unset, .unset, .unset, .unset, false, false, []⟩
noncomputable def toV : LV → Option V
  | .at (.int i) => some (.int i)
  | .at .none => some .none
  | _ => Option.none
noncomputable def V.isNone : V → Bool
  | .none => true
  | _ => false
noncomputable def deep : Nat := 12
section
variable (c : Cls) (im : Nat) (fuel : Nat) (cf : Nat → List LV → Option LV)
noncomputable def storeTs : List LV → List LT → LLoc → Option LLoc
  | [], [], ρ => some ρ
  | x :: xs, .name v :: ts, ρ => (putV ρ v x).bind fun ρ' => storeTs xs ts ρ'
  | x :: xs, .sub v i :: ts, ρ => x.int?.bind fun n => (evL cf i ρ).bind fun w => w.int?.bind fun k => (putSub ρ v k n).bind fun ρ' => storeTs xs ts ρ'
  | _, _, _ => Option.none
noncomputable def backL (ρ : LLoc) (v mv : Nat) (σ : M) : Option LLoc := (setL ρ mv (.own σ.mem)).bind fun ρ' => setL ρ' v (.mpu { σ with mem := [] } mv)
noncomputable def stepL (ρ : LLoc) (v m : Nat) : Option LLoc := (ρ.at v).bind fun u => u.mpu?.bind fun p => (ρ.at p.2).bind fun w => w.own?.bind fun xs => (callM c deep m [] { p.1 with mem := xs }).bind fun r =>
  cond (Nat.ble r.2.mem.length lim) (backL ρ v p.2 r.2) Option.none
noncomputable def mkL (ρ : LLoc) (v mv : Nat) (pc : LV) : Option LLoc := (ρ.at mv).bind fun w => w.own?.bind fun xs => (toV pc).bind fun p => (callM c deep im [.memr, p] { unsetM with mem := xs }).bind fun r =>
  cond (r.1.isNone && free ρ v && !Nat.beq v mv && Nat.ble r.2.mem.length lim) (backL ρ v mv r.2) Option.none
mutual
noncomputable def exL : LS → LLoc → Option (LFl × LLoc)
  | .asg v e, ρ => (evL cf e ρ).bind fun x => (putV ρ v x).map fun ρ' => (.next, ρ')
  | .asgC v e, ρ => (evL cf e ρ).bind fun x => (putV ρ v x).map fun ρ' => (.next, ρ')
  | .newl v e, ρ => (evL cf e ρ).bind fun x => x.ints?.bind fun xs => cond (free ρ v) ((setL ρ v (.own xs)).map fun ρ' => (.next, ρ')) Option.none
  | .asgT rev ts es, ρ => (evLs cf es ρ).bind fun vs => (cond rev (storeTs cf vs.reverse ts.reverse ρ) (storeTs cf vs ts ρ)).map fun ρ' => (.next, ρ')
  | .asgN ts e, ρ => (evL cf e ρ).bind fun u => u.int?.bind fun x => (storeTs cf (List.replicate ts.length (LV.int x)) ts ρ).map fun ρ' => (.next, ρ')
  | .sub v i e, ρ => (evL cf e ρ).bind fun u => u.int?.bind fun x => (evL cf i ρ).bind fun w => w.int?.bind fun k => (putSub ρ v k x).map fun ρ' => (.next, ρ')
  | .aug v op e, ρ => (readV ρ v).bind fun u => u.int?.bind fun a => (evL cf e ρ).bind fun w => w.int?.bind fun b => (op.ev a b).bind fun r => (putV ρ v (.int r)).map fun ρ' => (.next, ρ')
  | .step v m, ρ => (stepL c ρ v m).map fun ρ' => (.next, ρ')
  | .mk v mv e, ρ => (evL cf e ρ).bind fun x => (mkL c im ρ v mv x).map fun ρ' => (.next, ρ')
  | .ite t a b, ρ => (evL cf t ρ).bind fun v => (truthL v).bind fun q => cond q (exLs a ρ) (exLs b ρ)
  | .for tg src b, ρ => (evSrc cf src ρ).bind fun items => forL (bindTg tg) (fun ρ => exLs b ρ) items ρ
  | .forE vs e b, ρ => (evL cf e ρ).bind fun v => v.ints?.bind fun xs => forL (bindTg (.many vs)) (fun ρ => exLs b ρ) (enumItems 0 xs) ρ
  | .brk, ρ => (fun _ : Nat => some (LFl.brk, ρ)) fuel
  | .ret e, ρ => (evL cf e ρ).map fun x => (.ret x, ρ)
noncomputable def exLs : LSs → LLoc → Option (LFl × LLoc)
  | .nil, ρ => some (.next, ρ)
  | .cons s r, ρ => (exL s ρ).bind fun q => match q.1 with
    | .next => exLs r q.2
    | .brk => some (.brk, q.2)
    | .ret v => some (.ret v, q.2)
end
end
structure FnD where
  nm : Str
  np : Nat
  vars : List Str
  body : LSs
noncomputable def LFl.out : LFl → Option LV
  | .next => some (.at .none)
  | .brk => Option.none
  | .ret v => cond (stable v) (some v) Option.none
noncomputable def callL (c : Cls) (im fuel : Nat) (F : List FnD) : Nat → Nat → List LV → Option LV
  | 0, _, _ => Option.none
  | d + 1, f, args => (F[f]?).bind fun fd => if args.length = fd.np ∧ args.all stable = true then (exLs c im fuel (callL c im fuel F d) fd.body (args.map some ++ List.replicate (fd.vars.length - fd.np) Option.none)).bind fun r => r.1.out else Option.none
noncomputable def LOp.op : LOp → Operator
  | .add => .Add | .sub => .Sub | .mul => .Mult | .fdiv => .FloorDiv | .mod => .Mod | .pow => .Pow
noncomputable def plainL : PySem.Expr → Bool
  | .Name .. => true | .Attribute .. => true | .Call .. => true | .BinOp .. => true | .Subscript .. => true | .UnaryOp .. => true | .Constant (.int _) _ _ => true | .Constant (.bool _) _ _ => true | .Constant .none _ _ => true
  | .List .. => true | .Tuple .. => true | .IfExp .. => true | .ListComp .. => true | .Compare .. => true
  | _ => false
noncomputable def notComp : PySem.Expr → Bool
  | .ListComp .. => false | .SetComp .. => false | .DictComp .. => false
  | _ => true
structure LC where
  names : List (Str × NameKind)
  vars : List Str
noncomputable def LC.isVar (k : LC) (v : Nat) (n : Str) : Bool := k.vars[v]? == some n
noncomputable def LC.isGlob (k : LC) (n : Str) : Bool := k.names.lookup n == some .globalImplicit
noncomputable def compSc (k : LC) (caps : List Nat) (x : Str) (sc : Scope) : Bool :=
  sc.kind == .function && (x != ("__debug__" : Str)) && sc.names.lookup x == some .local && (sc.names.all fun y => match y.2 with
    | .cell => false
    | .local => sc.names.lookup y.1 == some .local
    | .free => k.names.lookup y.1 == some .cell
    | _ => true) && caps.all fun i => match k.vars[i]? with
      | some n => n != x && sc.names.lookup n == some .free && k.names.lookup n == some .cell
      | Option.none => false
noncomputable def stb : LE → Bool
  | .own _ => false
  | .idx (.own _) _ => true
  | .idx a _ => stb a
  | .disp es => stbs es
  | .tup es => stbs es
  | .bin _ a b => stb a && stb b
  | _ => true
where stbs : LEs → Bool
  | .nil => true
  | .cons e r => stb e && stbs r
noncomputable def iterOk : PySem.Expr → Bool
  | .Name .. => true | .Subscript .. => true | .List .. => true
  | _ => false
noncomputable def isNoneE : LE → Bool
  | .none => true
  | _ => false
noncomputable def trTgs (k : LC) : List Nat → List PySem.Expr → Bool
  | [], l => l.isEmpty
  | v :: vs, l => o_cons l fun x l => o_Name x fun n _ => k.isVar v n && trTgs k vs l
noncomputable def compScT (tg : List Str) (sc : Scope) : Bool := sc.kind == .function && tg.all (fun n => !(n == ("__debug__" : Str)) && sc.names.lookup n == some .local) && decide tg.Nodup && sc.names.all (fun y => y.2 != .cell && y.2 != .free && (y.2 != .local || sc.names.lookup y.1 == some .local))
section
variable (c : Cls) (F : List FnD)
mutual
noncomputable def trL (k : LC) : LE → PySem.Expr → Bool
  | .int i, x₀ => o_Constant x₀ fun z1 z2 z3 => o_int z1 fun j => i == j
  | .bool b, x₀ => o_Constant x₀ fun z1 z2 z3 => o_bool z1 fun d => b == d
  | .none, x₀ => o_Constant x₀ fun z1 z2 z3 => o_none z1 (true)
  | .var v, x₀ => o_Name x₀ fun n z1 => k.isVar v n
  | .own v, x₀ => o_Name x₀ fun n z1 => k.isVar v n
  | .bin op a b, x₀ => o_BinOp x₀ fun l o r z1 => o == op.op && trL k a l && trL k b r
  | .cmp op a b, x₀ => o_Compare x₀ fun l z1 z2 z3 => o_cons z1 fun o z4 => o_nil z4 (o_cons z2 fun r z5 => o_nil z5 (o == op.op && plainL r && trL k a l && trL k b r))
  | .and a b, x₀ => o_BoolOp x₀ fun o z1 z2 => o_cons z1 fun l z3 => o_cons z3 fun r z4 => o_nil z4 (o == .And && stb b && trL k a l && trL k b r)
  | .or a b, x₀ => o_BoolOp x₀ fun o z1 z2 => o_cons z1 fun l z3 => o_cons z3 fun r z4 => o_nil z4 (o == .Or && stb b && trL k a l && trL k b r)
  | .not a, x₀ => o_UnaryOp x₀ fun o e z1 => o == .Not && trL k a e
  | .idx a i, x₀ => o_Subscript x₀ fun l e z1 => plainL e && trL k a l && trL k i e
  | .slc a lo hi, x₀ => o_Subscript x₀ fun l z1 z2 => o_Slice z1 fun x y st z3 => st.isNone && trL k a l && (match x with | Option.none => isNoneE lo | some x => trL k lo x) && (match y with | Option.none => isNoneE hi | some y => trL k hi y)
  | .len a, x₀ => o_Call x₀ fun z1 z2 z3 z4 => o_Name z1 fun n z5 => o_cons z2 fun e z6 => o_nil z6 (o_nil z3 (n == ("len" : Str) && k.isGlob n && plainL e && trL k a e))
  | .sorted a, x₀ => o_Call x₀ fun z1 z2 z3 z4 => o_Name z1 fun n z5 => o_cons z2 fun e z6 => o_nil z6 (o_nil z3 (n == ("sorted" : Str) && k.isGlob n && plainL e && trL k a e))
  | .disp es, x₀ => o_List x₀ fun l z1 => trLs k es l
  | .tup es, x₀ => o_Tuple x₀ fun l z1 z2 => trLs k es l
  | .attr v f, x₀ => o_Attribute x₀ fun z1 a z2 => o_Name z1 fun n z3 => k.isVar v n && f.nm == a
  | .call f es, x₀ => o_Call x₀ fun z1 l z2 z3 => o_Name z1 fun n z4 => o_nil z2 (k.isGlob n && (match F[f]? with | some fd => fd.nm == n | Option.none => false) && !l.isEmpty && stb.stbs es && trLs k es l)
  | .comp elt caps src, x₀ => o_ListComp x₀ fun e z1 sc z2 => o_cons z1 fun z3 z4 => o_G z3 fun z5 it ifs as => o_Name z5 fun x z6 => o_nil z4 (ifs.isEmpty && as == 0 && compSc k caps x sc && trSrc k src it && trL ⟨sc.names, k.vars ++ [x]⟩ elt e)
noncomputable def trLs (k : LC) : LEs → List PySem.Expr → Bool
  | .nil, [] => true
  | .cons e r, x :: l => plainL x && trL k e x && trLs k r l
  | _, _ => false
noncomputable def trSrc (k : LC) : LSrc → PySem.Expr → Bool
  | .rng e, x₀ => o_Call x₀ fun z1 l kw z2 => o_Name z1 fun n z3 => o_cons l fun x z4 => o_nil z4 (o_nil kw (n == ("range" : Str) && k.isGlob n && plainL x && trL k e x))
  | .lst e, x => iterOk x && stb e && trL k e x
end
noncomputable def freshE : LE → Bool
  | .bin _ _ _ => true
  | .slc _ _ _ => true
  | .disp _ => true
  | _ => false
noncomputable def trTg (k : LC) : LTg → PySem.Expr → Bool
  | .one v, x => o_Name x fun n _ => k.isVar v n
  | .many vs, x => o_Tuple x fun l _ _ => trTgs k vs l && Nat.blt 0 vs.length
noncomputable def trT (k : LC) (x : PySem.Expr) : LT → Bool
  | .name v => o_Name x fun n _ => k.isVar v n
  | .sub v i => o_Subscript x fun b e _ => o_Name b fun n _ => k.isVar v n && plainL e && trL F k i e
noncomputable def trTs (k : LC) : List LT → List PySem.Expr → Bool
  | [], l => l.isEmpty
  | t :: ts, l => o_cons l fun x l => trT F k x t && trTs k ts l
noncomputable def backwards (k : LC) (ts : List PySem.Expr) (vs : List PySem.Expr) : Option Bool :=
  match !(ts.length == 2 || ts.length == 3) || vs.length != ts.length with
  | true => some false
  | false => match vs.any fun | .Starred .. => true | _ => false with
    | true => Option.none
    | false =>
      let line := (ts.head?.map (·.pos.line)).getD 0
      let names := ts.filterMap fun
        | .Name id pos => if k.names.lookup id == some .local && pos.line == line then some id else Option.none
        | _ => Option.none
      match names.length != ts.length || names.eraseDups.length != names.length with
      | true => some false
      | false => match vs.all (foldedForSure 8) with
        | true => some false
        | false => match vs.all (constantsAlone 8) with
          | true => Option.none
          | false => some true
noncomputable def compE : LE → Bool
  | .comp _ _ _ => true
  | _ => false
noncomputable def swapOk (n : Str) (q : Pos) : PySem.Expr → Bool
  | .ListComp _ _ sc xp => q.line == xp.line && !(sc.names.any fun y => y.1 == n && (y.2 == .local || y.2 == .cell))
  | _ => false
noncomputable def isCall : PySem.Expr → Bool
  | .Call .. => true
  | _ => false
mutual
noncomputable def trLS (k : LC) : LS → Stmt → Bool
  | .asg v e, x₀ => o_Assign x₀ fun z1 x z2 => o_cons z1 fun z3 z4 => o_Name z3 fun n z5 => o_nil z4 (k.isVar v n && notComp x && stb e && trL F k e x)
  | .asgC v e, x₀ => o_Assign x₀ fun z1 x p => o_cons z1 fun z2 z3 => o_Name z2 fun n q => o_nil z3 (k.isVar v n && k.names.lookup n == some .local && compE e && swapOk n q x && trL F k e x)
  | .newl v e, x₀ => o_Assign x₀ fun z1 x z2 => o_cons z1 fun z3 z4 => o_Name z3 fun n z5 => o_nil z4 (k.isVar v n && notComp x && freshE e && trL F k e x)
  | .asgT rev ts es, x₀ => o_Assign x₀ fun z1 z2 z3 => o_cons z1 fun z4 z5 => o_Tuple z4 fun l z6 z7 => o_nil z5 (o_Tuple z2 fun r z8 z9 => trTs F k ts l && stb.stbs es && trLs F k es r && Nat.ble ts.length 1000 && backwards k l r == some rev)
  | .asgN ts e, x₀ => o_Assign x₀ fun l x z2 => Nat.blt 1 ts.length && trTs F k ts l && trL F k e x
  | .sub v i e, x₀ => o_Assign x₀ fun z1 x z2 => o_cons z1 fun z3 z4 => o_Subscript z3 fun z5 y z6 => o_Name z5 fun n z7 => o_nil z4 (k.isVar v n && plainL y && notComp x && trL F k i y && trL F k e x)
  | .aug v op e, x₀ => o_AugAssign x₀ fun z1 o x z2 => o_Name z1 fun n z3 => k.isVar v n && o == op.op && trL F k e x
  | .step v m, x₀ => o_Expr x₀ fun z1 z2 => o_Call z1 fun z3 z4 z5 p => o_Attribute z3 fun z6 a ap => o_Name z6 fun n z7 => o_nil z4 (o_nil z5 (k.isVar v n && isMeth c m a && ap.endLine == p.line))
  | .mk v mv e, x₀ => o_Assign x₀ fun z1 z2 z3 => o_cons z1 fun z4 z5 => o_Name z4 fun n z6 => o_nil z5 (o_Call z2 fun z7 z8 z9 z10 => o_Name z7 fun f z11 => o_nil z8 (o_cons z9 fun z12 z13 => o_K z12 fun k1 z14 z15 => o_Name z14 fun m z16 => o_cons z13 fun z17 z18 => o_K z17 fun k2 x z19 => o_nil z18 (k.isVar v n && f == ("MPU" : Str) && k.isGlob f && k1 == some ("memory" : Str) && k2 == some ("pc" : Str) && k.isVar mv m && plainL x && trL F k e x)))
  | .ite t a b, x₀ => o_If x₀ fun x l r z1 => trL F k t x && trLSs k a l && trLSs k b r
  | .for tg src b, x₀ => o_For x₀ fun t it l o z1 => o.isEmpty && trTg k tg t && trSrc F k src it && trLSs k b l
  | .forE vs e b, x₀ => o_For x₀ fun t it l o z1 => o.isEmpty && trTg k (.many vs) t && o_Call it (fun f a kw p => o_Name f fun n z2 => o_cons a fun x r => o_nil r (o_nil kw (n == ("enumerate" : Str) && k.isGlob n && plainL x && stb e && trL F k e x))) && trLSs k b l
  | .brk, x₀ => o_Break x₀ fun z1 => true
  | .ret e, x₀ => o_Return x₀ fun z1 z2 => o_some z1 fun x => stb e && trL F k e x
noncomputable def trLSs (k : LC) : LSs → List Stmt → Bool
  | .nil, [] => true
  | .cons s r, x :: l => trLS k s x && trLSs k r l
  | _, _ => false
end
end
section
variable {c : Cls} {F : List FnD} {k : LC}
theorem inv_trL_int {K : Prop} {i : Int} {x₀ : PySem.Expr} (h : trL F k (.int i) x₀ = true) (kk : ∀ j y1 y2, x₀ = (.Constant (.int j) y1 y2) → (i == j) = true → K) : K := by
  revert kk
  apply o_Constant_elim h; intro z1 z2 z3 h
  apply o_int_elim h; intro j h
  exact fun kk => kk _ _ _ rfl h
theorem inv_trL_bool {K : Prop} {b : Bool} {x₀ : PySem.Expr} (h : trL F k (.bool b) x₀ = true) (kk : ∀ d y1 y2, x₀ = (.Constant (.bool d) y1 y2) → (b == d) = true → K) : K := by
  revert kk
  apply o_Constant_elim h; intro z1 z2 z3 h
  apply o_bool_elim h; intro d h
  exact fun kk => kk _ _ _ rfl h
theorem inv_trL_none {K : Prop}  {x₀ : PySem.Expr} (h : trL F k .none x₀ = true) (kk : ∀ y1 y2, x₀ = (.Constant (.none) y1 y2) → (true) = true → K) : K := by
  revert kk
  apply o_Constant_elim h; intro z1 z2 z3 h
  apply o_none_elim h; intro h
  exact fun kk => kk _ _ rfl h
theorem inv_trL_var {K : Prop} {v : Nat} {x₀ : PySem.Expr} (h : trL F k (.var v) x₀ = true) (kk : ∀ n y1, x₀ = (.Name n y1) → (k.isVar v n) = true → K) : K := by
  revert kk
  apply o_Name_elim h; intro n z1 h
  exact fun kk => kk _ _ rfl h
theorem inv_trL_own {K : Prop} {v : Nat} {x₀ : PySem.Expr} (h : trL F k (.own v) x₀ = true) (kk : ∀ n y1, x₀ = (.Name n y1) → (k.isVar v n) = true → K) : K := by
  revert kk
  apply o_Name_elim h; intro n z1 h
  exact fun kk => kk _ _ rfl h
theorem inv_trL_bin {K : Prop} {op : LOp} {a : LE} {b : LE} {x₀ : PySem.Expr} (h : trL F k (.bin op a b) x₀ = true) (kk : ∀ l o r y1, x₀ = (.BinOp l o r y1) → (o == op.op && trL F k a l && trL F k b r) = true → K) : K := by
  revert kk
  apply o_BinOp_elim h; intro l o r z1 h
  exact fun kk => kk _ _ _ _ rfl h
theorem inv_trL_cmp {K : Prop} {op : COp} {a : LE} {b : LE} {x₀ : PySem.Expr} (h : trL F k (.cmp op a b) x₀ = true) (kk : ∀ l o r y1, x₀ = (.Compare l (o :: []) (r :: []) y1) → (o == op.op && plainL r && trL F k a l && trL F k b r) = true → K) : K := by
  revert kk
  apply o_Compare_elim h; intro l z1 z2 z3 h
  apply o_cons_elim h; intro o z4 h
  apply o_nil_elim h; intro h
  apply o_cons_elim h; intro r z5 h
  apply o_nil_elim h; intro h
  exact fun kk => kk _ _ _ _ rfl h
theorem inv_trL_and {K : Prop} {a : LE} {b : LE} {x₀ : PySem.Expr} (h : trL F k (.and a b) x₀ = true) (kk : ∀ o l r y1, x₀ = (.BoolOp o (l :: (r :: [])) y1) → (o == .And && stb b && trL F k a l && trL F k b r) = true → K) : K := by
  revert kk
  apply o_BoolOp_elim h; intro o z1 z2 h
  apply o_cons_elim h; intro l z3 h
  apply o_cons_elim h; intro r z4 h
  apply o_nil_elim h; intro h
  exact fun kk => kk _ _ _ _ rfl h
theorem inv_trL_or {K : Prop} {a : LE} {b : LE} {x₀ : PySem.Expr} (h : trL F k (.or a b) x₀ = true) (kk : ∀ o l r y1, x₀ = (.BoolOp o (l :: (r :: [])) y1) → (o == .Or && stb b && trL F k a l && trL F k b r) = true → K) : K := by
  revert kk
  apply o_BoolOp_elim h; intro o z1 z2 h
  apply o_cons_elim h; intro l z3 h
  apply o_cons_elim h; intro r z4 h
  apply o_nil_elim h; intro h
  exact fun kk => kk _ _ _ _ rfl h
theorem inv_trL_not {K : Prop} {a : LE} {x₀ : PySem.Expr} (h : trL F k (.not a) x₀ = true) (kk : ∀ o e y1, x₀ = (.UnaryOp o e y1) → (o == .Not && trL F k a e) = true → K) : K := by
  revert kk
  apply o_UnaryOp_elim h; intro o e z1 h
  exact fun kk => kk _ _ _ rfl h
theorem inv_trL_idx {K : Prop} {a : LE} {i : LE} {x₀ : PySem.Expr} (h : trL F k (.idx a i) x₀ = true) (kk : ∀ l e y1, x₀ = (.Subscript l e y1) → (plainL e && trL F k a l && trL F k i e) = true → K) : K := by
  revert kk
  apply o_Subscript_elim h; intro l e z1 h
  exact fun kk => kk _ _ _ rfl h
theorem inv_trL_slc {K : Prop} {a : LE} {lo : LE} {hi : LE} {x₀ : PySem.Expr} (h : trL F k (.slc a lo hi) x₀ = true) (kk : ∀ l x y st y1 y2, x₀ = (.Subscript l (.Slice x y st y1) y2) → (st.isNone && trL F k a l && (match x with | Option.none => isNoneE lo | some x => trL F k lo x) && (match y with | Option.none => isNoneE hi | some y => trL F k hi y)) = true → K) : K := by
  revert kk
  apply o_Subscript_elim h; intro l z1 z2 h
  apply o_Slice_elim h; intro x y st z3 h
  exact fun kk => kk _ _ _ _ _ _ rfl h
theorem inv_trL_len {K : Prop} {a : LE} {x₀ : PySem.Expr} (h : trL F k (.len a) x₀ = true) (kk : ∀ n y1 e y2, x₀ = (.Call (.Name n y1) (e :: []) [] y2) → (n == ("len" : Str) && k.isGlob n && plainL e && trL F k a e) = true → K) : K := by
  revert kk
  apply o_Call_elim h; intro z1 z2 z3 z4 h
  apply o_Name_elim h; intro n z5 h
  apply o_cons_elim h; intro e z6 h
  apply o_nil_elim h; intro h
  apply o_nil_elim h; intro h
  exact fun kk => kk _ _ _ _ rfl h
theorem inv_trL_sorted {K : Prop} {a : LE} {x₀ : PySem.Expr} (h : trL F k (.sorted a) x₀ = true) (kk : ∀ n y1 e y2, x₀ = (.Call (.Name n y1) (e :: []) [] y2) → (n == ("sorted" : Str) && k.isGlob n && plainL e && trL F k a e) = true → K) : K := by
  revert kk
  apply o_Call_elim h; intro z1 z2 z3 z4 h
  apply o_Name_elim h; intro n z5 h
  apply o_cons_elim h; intro e z6 h
  apply o_nil_elim h; intro h
  apply o_nil_elim h; intro h
  exact fun kk => kk _ _ _ _ rfl h
theorem inv_trL_disp {K : Prop} {es : LEs} {x₀ : PySem.Expr} (h : trL F k (.disp es) x₀ = true) (kk : ∀ l y1, x₀ = (.List l y1) → (trLs F k es l) = true → K) : K := by
  revert kk
  apply o_List_elim h; intro l z1 h
  exact fun kk => kk _ _ rfl h
theorem inv_trL_tup {K : Prop} {es : LEs} {x₀ : PySem.Expr} (h : trL F k (.tup es) x₀ = true) (kk : ∀ l y1 y2, x₀ = (.Tuple l y1 y2) → (trLs F k es l) = true → K) : K := by
  revert kk
  apply o_Tuple_elim h; intro l z1 z2 h
  exact fun kk => kk _ _ _ rfl h
theorem inv_trL_attr {K : Prop} {v : Nat} {f : Fld} {x₀ : PySem.Expr} (h : trL F k (.attr v f) x₀ = true) (kk : ∀ n y1 a y2, x₀ = (.Attribute (.Name n y1) a y2) → (k.isVar v n && f.nm == a) = true → K) : K := by
  revert kk
  apply o_Attribute_elim h; intro z1 a z2 h
  apply o_Name_elim h; intro n z3 h
  exact fun kk => kk _ _ _ _ rfl h
theorem inv_trL_call {K : Prop} {f : Nat} {es : LEs} {x₀ : PySem.Expr} (h : trL F k (.call f es) x₀ = true) (kk : ∀ n y1 l y2, x₀ = (.Call (.Name n y1) l [] y2) → (k.isGlob n && (match F[f]? with | some fd => fd.nm == n | Option.none => false) && !l.isEmpty && stb.stbs es && trLs F k es l) = true → K) : K := by
  revert kk
  apply o_Call_elim h; intro z1 l z2 z3 h
  apply o_Name_elim h; intro n z4 h
  apply o_nil_elim h; intro h
  exact fun kk => kk _ _ _ _ rfl h
theorem inv_trL_comp {K : Prop} {elt : LE} {caps : List Nat} {src : LSrc} {x₀ : PySem.Expr} (h : trL F k (.comp elt caps src) x₀ = true) (kk : ∀ e x y1 it ifs as sc y2, x₀ = (.ListComp e (⟨(.Name x y1), it, ifs, as⟩ :: []) sc y2) → (ifs.isEmpty && as == 0 && compSc k caps x sc && trSrc F k src it && trL F ⟨sc.names, k.vars ++ [x]⟩ elt e) = true → K) : K := by
  revert kk
  apply o_ListComp_elim h; intro e z1 sc z2 h
  apply o_cons_elim h; intro z3 z4 h
  apply o_G_elim h; intro z5 it ifs as h
  apply o_Name_elim h; intro x z6 h
  apply o_nil_elim h; intro h
  exact fun kk => kk _ _ _ _ _ _ _ _ rfl h
theorem inv_trLS_asg {K : Prop} {v : Nat} {e : LE} {x₀ : Stmt} (h : trLS c F k (.asg v e) x₀ = true) (kk : ∀ n y1 x y2, x₀ = (.Assign ((.Name n y1) :: []) x y2) → (k.isVar v n && notComp x && stb e && trL F k e x) = true → K) : K := by
  revert kk
  apply o_Assign_elim h; intro z1 x z2 h
  apply o_cons_elim h; intro z3 z4 h
  apply o_Name_elim h; intro n z5 h
  apply o_nil_elim h; intro h
  exact fun kk => kk _ _ _ _ rfl h
theorem inv_trLS_asgC {K : Prop} {v : Nat} {e : LE} {x₀ : Stmt} (h : trLS c F k (.asgC v e) x₀ = true) (kk : ∀ n q x p, x₀ = (.Assign ((.Name n q) :: []) x p) → (k.isVar v n && k.names.lookup n == some .local && compE e && swapOk n q x && trL F k e x) = true → K) : K := by
  revert kk
  apply o_Assign_elim h; intro z1 x p h
  apply o_cons_elim h; intro z2 z3 h
  apply o_Name_elim h; intro n q h
  apply o_nil_elim h; intro h
  exact fun kk => kk _ _ _ _ rfl h
theorem inv_trLS_newl {K : Prop} {v : Nat} {e : LE} {x₀ : Stmt} (h : trLS c F k (.newl v e) x₀ = true) (kk : ∀ n y1 x y2, x₀ = (.Assign ((.Name n y1) :: []) x y2) → (k.isVar v n && notComp x && freshE e && trL F k e x) = true → K) : K := by
  revert kk
  apply o_Assign_elim h; intro z1 x z2 h
  apply o_cons_elim h; intro z3 z4 h
  apply o_Name_elim h; intro n z5 h
  apply o_nil_elim h; intro h
  exact fun kk => kk _ _ _ _ rfl h
theorem inv_trLS_asgT {K : Prop} {rev : Bool} {ts : List LT} {es : LEs} {x₀ : Stmt} (h : trLS c F k (.asgT rev ts es) x₀ = true) (kk : ∀ l y1 y2 r y3 y4 y5, x₀ = (.Assign ((.Tuple l y1 y2) :: []) (.Tuple r y3 y4) y5) → (trTs F k ts l && stb.stbs es && trLs F k es r && Nat.ble ts.length 1000 && backwards k l r == some rev) = true → K) : K := by
  revert kk
  apply o_Assign_elim h; intro z1 z2 z3 h
  apply o_cons_elim h; intro z4 z5 h
  apply o_Tuple_elim h; intro l z6 z7 h
  apply o_nil_elim h; intro h
  apply o_Tuple_elim h; intro r z8 z9 h
  exact fun kk => kk _ _ _ _ _ _ _ rfl h
theorem inv_trLS_asgN {K : Prop} {ts : List LT} {e : LE} {x₀ : Stmt} (h : trLS c F k (.asgN ts e) x₀ = true) (kk : ∀ l x y1, x₀ = (.Assign l x y1) → (Nat.blt 1 ts.length && trTs F k ts l && trL F k e x) = true → K) : K := by
  revert kk
  apply o_Assign_elim h; intro l x z2 h
  exact fun kk => kk _ _ _ rfl h
theorem inv_trLS_sub {K : Prop} {v : Nat} {i : LE} {e : LE} {x₀ : Stmt} (h : trLS c F k (.sub v i e) x₀ = true) (kk : ∀ n y1 y y2 x y3, x₀ = (.Assign ((.Subscript (.Name n y1) y y2) :: []) x y3) → (k.isVar v n && plainL y && notComp x && trL F k i y && trL F k e x) = true → K) : K := by
  revert kk
  apply o_Assign_elim h; intro z1 x z2 h
  apply o_cons_elim h; intro z3 z4 h
  apply o_Subscript_elim h; intro z5 y z6 h
  apply o_Name_elim h; intro n z7 h
  apply o_nil_elim h; intro h
  exact fun kk => kk _ _ _ _ _ _ rfl h
theorem inv_trLS_aug {K : Prop} {v : Nat} {op : LOp} {e : LE} {x₀ : Stmt} (h : trLS c F k (.aug v op e) x₀ = true) (kk : ∀ n y1 o x y2, x₀ = (.AugAssign (.Name n y1) o x y2) → (k.isVar v n && o == op.op && trL F k e x) = true → K) : K := by
  revert kk
  apply o_AugAssign_elim h; intro z1 o x z2 h
  apply o_Name_elim h; intro n z3 h
  exact fun kk => kk _ _ _ _ _ rfl h
theorem inv_trLS_step {K : Prop} {v : Nat} {m : Nat} {x₀ : Stmt} (h : trLS c F k (.step v m) x₀ = true) (kk : ∀ n y1 a ap p y2, x₀ = (.Expr (.Call (.Attribute (.Name n y1) a ap) [] [] p) y2) → (k.isVar v n && isMeth c m a && ap.endLine == p.line) = true → K) : K := by
  revert kk
  apply o_Expr_elim h; intro z1 z2 h
  apply o_Call_elim h; intro z3 z4 z5 p h
  apply o_Attribute_elim h; intro z6 a ap h
  apply o_Name_elim h; intro n z7 h
  apply o_nil_elim h; intro h
  apply o_nil_elim h; intro h
  exact fun kk => kk _ _ _ _ _ _ rfl h
theorem inv_trLS_mk {K : Prop} {v : Nat} {mv : Nat} {e : LE} {x₀ : Stmt} (h : trLS c F k (.mk v mv e) x₀ = true) (kk : ∀ n y1 f y2 k1 m y3 y4 k2 x y5 y6 y7, x₀ = (.Assign ((.Name n y1) :: []) (.Call (.Name f y2) [] (⟨k1, (.Name m y3), y4⟩ :: (⟨k2, x, y5⟩ :: [])) y6) y7) → (k.isVar v n && f == ("MPU" : Str) && k.isGlob f && k1 == some ("memory" : Str) && k2 == some ("pc" : Str) && k.isVar mv m && plainL x && trL F k e x) = true → K) : K := by
  revert kk
  apply o_Assign_elim h; intro z1 z2 z3 h
  apply o_cons_elim h; intro z4 z5 h
  apply o_Name_elim h; intro n z6 h
  apply o_nil_elim h; intro h
  apply o_Call_elim h; intro z7 z8 z9 z10 h
  apply o_Name_elim h; intro f z11 h
  apply o_nil_elim h; intro h
  apply o_cons_elim h; intro z12 z13 h
  apply o_K_elim h; intro k1 z14 z15 h
  apply o_Name_elim h; intro m z16 h
  apply o_cons_elim h; intro z17 z18 h
  apply o_K_elim h; intro k2 x z19 h
  apply o_nil_elim h; intro h
  exact fun kk => kk _ _ _ _ _ _ _ _ _ _ _ _ _ rfl h
theorem inv_trLS_ite {K : Prop} {t : LE} {a : LSs} {b : LSs} {x₀ : Stmt} (h : trLS c F k (.ite t a b) x₀ = true) (kk : ∀ x l r y1, x₀ = (.If x l r y1) → (trL F k t x && trLSs c F k a l && trLSs c F k b r) = true → K) : K := by
  revert kk
  apply o_If_elim h; intro x l r z1 h
  exact fun kk => kk _ _ _ _ rfl h
theorem inv_trLS_for {K : Prop} {tg : LTg} {src : LSrc} {b : LSs} {x₀ : Stmt} (h : trLS c F k (.for tg src b) x₀ = true) (kk : ∀ t it l o y1, x₀ = (.For t it l o y1) → (o.isEmpty && trTg k tg t && trSrc F k src it && trLSs c F k b l) = true → K) : K := by
  revert kk
  apply o_For_elim h; intro t it l o z1 h
  exact fun kk => kk _ _ _ _ _ rfl h
theorem inv_trLS_forE {K : Prop} {vs : List Nat} {e : LE} {b : LSs} {x₀ : Stmt} (h : trLS c F k (.forE vs e b) x₀ = true) (kk : ∀ t n q x p l y1, x₀ = (.For t (.Call (.Name n q) (x :: []) [] p) l [] y1) → trTg k (.many vs) t = true → (n == ("enumerate" : Str) && k.isGlob n && plainL x && stb e && trL F k e x) = true → trLSs c F k b l = true → K) : K := by
  revert kk
  apply o_For_elim h; intro t it l o z1 h
  refine and_el h fun h h4 => ?_
  refine and_el h fun h h3 => ?_
  refine and_el h fun h1 h2 => ?_
  cases List.isEmpty_iff.mp h1
  revert h2 h4
  apply o_Call_elim h3; intro f a kw p h3
  apply o_Name_elim h3; intro n q h3
  apply o_cons_elim h3; intro x r h3
  apply o_nil_elim h3; intro h3
  apply o_nil_elim h3; intro h3 h4 h2
  exact fun kk => kk _ _ _ _ _ _ _ rfl h2 h3 h4
theorem inv_trLS_brk {K : Prop}  {x₀ : Stmt} (h : trLS c F k .brk x₀ = true) (kk : ∀ y1, x₀ = (.Break y1) → (true) = true → K) : K := by
  revert kk
  apply o_Break_elim h; intro z1 h
  exact fun kk => kk _ rfl h
theorem inv_trLS_ret {K : Prop} {e : LE} {x₀ : Stmt} (h : trLS c F k (.ret e) x₀ = true) (kk : ∀ x y1, x₀ = (.Return (some x) y1) → (stb e && trL F k e x) = true → K) : K := by
  revert kk
  apply o_Return_elim h; intro z1 z2 h
  apply o_some_elim h; intro x h
  exact fun kk => kk _ _ rfl h
end
end Mine

end
section
open PySem PySem.W PyProof.Rows
set_option maxRecDepth 100000
set_option maxHeartbeats 0
set_option linter.unusedVariables false
namespace Mine
section
variable {c : Cls} {im fuel : Nat} {cf : Nat → List LV → Option LV} {ρ ρ' ρ₁ ρ₂ : LLoc}
theorem evL_bin {op : LOp} {a b : LE} : evL cf (.bin op a b) ρ = (evL cf a ρ).bind fun x => (evL cf b ρ).bind fun y => binV op x y := by kernel_rfl
theorem evL_idx {a b : LE} : evL cf (.idx a b) ρ = (evL cf a ρ).bind fun x => (evL cf b ρ).bind fun y => idxV x y := by kernel_rfl
theorem evL_comp {elt : LE} {caps : List Nat} {src : LSrc} : evL cf (.comp elt caps src) ρ = (evSrc cf src ρ).bind fun items => (mapO asInt items).bind fun _ => (mapO (fun it => (evL cf elt (maskL caps ρ ++ [some it])).bind LV.int?) items).map LV.ints := by kernel_rfl
theorem evLs_cons {a : LE} {b : LEs} : evLs cf (.cons a b) ρ = (evL cf a ρ).bind fun v => (evLs cf b ρ).map fun vs => v :: vs := by kernel_rfl
theorem exL_asg {v : Nat} {e : LE} : exL c im fuel cf (.asg v e) ρ = (evL cf e ρ).bind fun x => (putV ρ v x).map fun ρ' => (.next, ρ') := by kernel_rfl
theorem exL_asgC {v : Nat} {e : LE} : exL c im fuel cf (.asgC v e) ρ = (evL cf e ρ).bind fun x => (putV ρ v x).map fun ρ' => (.next, ρ') := by kernel_rfl
theorem exL_asgT {rev : Bool} {ts : List LT} {es : LEs} : exL c im fuel cf (.asgT rev ts es) ρ = (evLs cf es ρ).bind fun vs => (cond rev (storeTs cf vs.reverse ts.reverse ρ) (storeTs cf vs ts ρ)).map fun ρ' => (.next, ρ') := by kernel_rfl
theorem exL_step {v m : Nat} : exL c im fuel cf (.step v m) ρ = (stepL c ρ v m).map fun ρ' => (.next, ρ') := by kernel_rfl
theorem exL_ite {t : LE} {a b : LSs} : exL c im fuel cf (.ite t a b) ρ = (evL cf t ρ).bind fun v => (truthL v).bind fun q => cond q (exLs c im fuel cf a ρ) (exLs c im fuel cf b ρ) := by kernel_rfl
theorem exL_for {tg : LTg} {src : LSrc} {b : LSs} : exL c im fuel cf (.for tg src b) ρ = (evSrc cf src ρ).bind fun items => forL (bindTg tg) (fun ρ => exLs c im fuel cf b ρ) items ρ := by kernel_rfl
theorem exL_sub {v : Nat} {i e : LE} : exL c im fuel cf (.sub v i e) ρ = (evL cf e ρ).bind fun u => u.int?.bind fun x => (evL cf i ρ).bind fun w => w.int?.bind fun k => (putSub ρ v k x).map fun ρ' => (.next, ρ') := by kernel_rfl
theorem exL_ret {e : LE} : exL c im fuel cf (.ret e) ρ = (evL cf e ρ).map fun x => (.ret x, ρ) := by kernel_rfl
theorem exLs_go {s : LS} {r : LSs} (h : exL c im fuel cf s ρ = some (.next, ρ')) : exLs c im fuel cf (.cons s r) ρ = exLs c im fuel cf r ρ' := by
  show (exL c im fuel cf s ρ).bind _ = _
  rw [h]; rfl
theorem exLs_brk {s : LS} {r : LSs} (h : exL c im fuel cf s ρ = some (.brk, ρ')) : exLs c im fuel cf (.cons s r) ρ = some (.brk, ρ') := by
  show (exL c im fuel cf s ρ).bind _ = _
  rw [h]; rfl
theorem exLs_ret {s : LS} {r : LSs} {x : LV} (h : exL c im fuel cf s ρ = some (.ret x, ρ')) : exLs c im fuel cf (.cons s r) ρ = some (.ret x, ρ') := by
  show (exL c im fuel cf s ρ).bind _ = _
  rw [h]; rfl
theorem forL_go {bind : LV → LLoc → Option LLoc} {body : LLoc → Option (LFl × LLoc)} {v : LV} {r : List LV} (h1 : bind v ρ = some ρ₁) (h2 : body ρ₁ = some (.next, ρ₂)) : forL bind body (v :: r) ρ = forL bind body r ρ₂ := by
  show (bind v ρ).bind _ = _
  rw [h1, Option.bind_some, h2]; rfl
theorem forL_brk {bind : LV → LLoc → Option LLoc} {body : LLoc → Option (LFl × LLoc)} {v : LV} {r : List LV} (h1 : bind v ρ = some ρ₁) (h2 : body ρ₁ = some (.brk, ρ₂)) : forL bind body (v :: r) ρ = some (.next, ρ₂) := by
  show (bind v ρ).bind _ = _
  rw [h1, Option.bind_some, h2]; rfl
end
end Mine

end
section
open PySem PySem.W PyProof.Rows
set_option maxRecDepth 100000
set_option maxHeartbeats 0
set_option linter.unusedVariables false
namespace Mine
section
variable {c : Cls} {im fuel : Nat} {cf : Nat → List LV → Option LV} {ρ ρ' ρ₁ ρ₂ : LLoc}
theorem mapO_at' : ∀ xs : List Int, mapO asAt (xs.map LV.int) = some (xs.map At.int)
  | [] => rfl
  | x :: xs => by
    show (mapO asAt (xs.map LV.int)).map _ = _
    rw [mapO_at' xs]; rfl
theorem mapO_int' : ∀ xs : List Int, mapO At.int? (xs.map At.int) = some xs
  | [] => rfl
  | x :: xs => by
    show (mapO At.int? (xs.map At.int)).map _ = _
    rw [mapO_int' xs]; rfl
theorem ev_tup {es : LEs} {xs : List Int} (h : evLs cf es ρ = some (xs.map LV.int)) (hl : xs.length ≤ lim) : evL cf (.tup es) ρ = some (.tup (xs.map At.int)) := by
  show (evLs cf es ρ).bind _ = _
  rw [h]
  show (if (xs.map LV.int).length ≤ lim then _ else _) = _
  rw [if_pos (by rw [List.length_map]; exact hl), show mapO asAt (xs.map LV.int) = _ from mapO_at' xs]; rfl
theorem chk {es1 es2 : LEs} {a : LSs} {xs : List Int} (h1 : evLs cf es1 ρ = some (xs.map LV.int)) (h2 : evLs cf es2 ρ = some (xs.map LV.int)) (hl : xs.length ≤ lim) : exL c im fuel cf (.ite (.cmp .ne (.tup es1) (.tup es2)) a .nil) ρ = some (.next, ρ) := by
  have hc : cmpV .ne (.tup (xs.map At.int)) (.tup (xs.map At.int)) = some false := by
    show ((mapO At.int? (xs.map At.int)).bind fun a => (mapO At.int? (xs.map At.int)).bind fun b => eqOp .ne (a == b)) = _
    rw [mapO_int' xs, Option.bind_some, Option.bind_some, beq_self_eq_true]; rfl
  rw [exL_ite]
  show ((((evL cf (.tup es1) ρ).bind fun x => (evL cf (.tup es2) ρ).bind fun y => (cmpV .ne x y).map LV.bool)).bind _) = _
  rw [ev_tup h1 hl, ev_tup h2 hl, Option.bind_some, Option.bind_some, hc]; rfl

theorem for_inv {v n : Nat} {e : LE} {b : LSs} (I : Nat → LLoc → Prop) (he : evL cf e ρ = some (.int (n : Int))) (hn : n ≤ lim) (h0 : I 0 ρ) (step : ∀ i ρ, i < n → I i ρ → ∃ ρ₁ ρ₂, putV ρ v (.int i) = some ρ₁ ∧ exLs c im fuel cf b ρ₁ = some (.next, ρ₂) ∧ I (i + 1) ρ₂) :
    ∃ ρ', exL c im fuel cf (.for (.one v) (.rng e) b) ρ = some (.next, ρ') ∧ I n ρ' := by
  have go : ∀ (m k : Nat) (ρ : LLoc), k + m = n → I k ρ → ∃ ρ', forL (bindTg (.one v)) (fun ρ => exLs c im fuel cf b ρ) ((List.range' k m).map fun i : Nat => LV.int (i : Int)) ρ = some (.next, ρ') ∧ I n ρ' := by
    intro m
    induction m with
    | zero => intro k ρ hk h; exact ⟨ρ, rfl, by rw [← hk, Nat.add_zero]; exact h⟩
    | succ m ih =>
      intro k ρ hk h
      obtain ⟨ρ₁, ρ₂, h1, h2, h3⟩ := step k ρ (by lia) h
      obtain ⟨ρ', h4, h5⟩ := ih (k + 1) ρ₂ (by lia) h3
      refine ⟨ρ', ?_, h5⟩
      rw [List.range'_succ, List.map_cons]
      rw [forL_go (ρ₁ := ρ₁) (ρ₂ := ρ₂) h1 h2]
      exact h4
  obtain ⟨ρ', h1, h2⟩ := go n 0 ρ (Nat.zero_add n) h0
  refine ⟨ρ', ?_, h2⟩
  rw [exL_for]
  have : evSrc cf (.rng e) ρ = some ((List.range' 0 n).map fun i : Nat => LV.int (i : Int)) := by
    show (evL cf e ρ).bind _ = _
    rw [he]
    show (if -(2 ^ 40) ≤ (n : Int) ∧ (n : Int) ≤ lim then _ else _) = _
    rw [if_pos ⟨by lia, by exact Int.ofNat_le.mpr hn⟩, Int.toNat_natCast, List.range_eq_range']
  rw [this, Option.bind_some]
  exact h1
end
end Mine

end
section
open PySem PySem.W PyProof.Rows
set_option maxRecDepth 100000
namespace Mine

structure LX where
  x : Cx
  F : List FnD
  im : Nat
  fuel : Nat
  mg : Str → Option Value
  mb : Str → Option Value
  fA : Nat → Addr
noncomputable def LX.at (X : LX) (I D L : Addr) : Cx := { X.x with I := I, D := D, L := L }

noncomputable def VarAt (env : Env) (h : Heap) (n : Str) (y : Value) : Prop :=
  (env.kindOf n = some .local ∧ ∃ m, h.Ns env.locals m ∧ m n = some y) ∨ (env.kindOf n = some .cell ∧ ∃ c, env.cells.lookup n = some c ∧ h.IsCell c (some y))
theorem ns_unique {h : Heap} {a : Addr} {m m' : Str → Option Value} (x : h.Ns a m) (y : h.Ns a m') : m = m' := by
  obtain ⟨o, es, ep, e, d, _, f⟩ := x
  obtain ⟨o', es', ep', e', d', _, f'⟩ := y
  rw [e] at e'; cases e'
  rw [d] at d'; cases d'
  funext n; rw [← f n, f' n]
theorem VarAt.unique {env : Env} {h : Heap} {n : Str} {y y' : Value} (a : VarAt env h n y) (b : VarAt env h n y') : y = y' := by
  rcases a with ⟨k, m, hm, e⟩ | ⟨k, c, hc, hv⟩ <;> rcases b with ⟨k', m', hm', e'⟩ | ⟨k', c', hc', hv'⟩
  · rw [ns_unique hm hm'] at e; rw [e] at e'; exact Option.some.inj e'
  · rw [k] at k'; cases k'
  · rw [k] at k'; cases k'
  · rw [hc] at hc'; cases hc'
    obtain ⟨o, e, d⟩ := hv; obtain ⟨o', e', d'⟩ := hv'
    rw [e] at e'; cases e'; rw [d] at d'; cases d'; rfl

noncomputable def RA (N : Addr → Prop) (h : Heap) : At → Value → Prop
  | .int i, y => ∃ t, y = .int i t
  | .bool b, y => y = .bool b
  | .none, y => y = .none
  | .ints xs, y => ∃ a items, y = .ref a ∧ ¬ N a ∧ h.IsList a items ∧ IntsAre items.toList xs ∧ xs.length ≤ lim
noncomputable def RT (N : Addr → Prop) (h : Heap) (xs : List At) (y : Value) : Prop := ∃ a items, y = .ref a ∧ IsTup h a items ∧ Paired (RA N h) xs items.toList
noncomputable def RV (N : Addr → Prop) (h : Heap) : LV → Value → Prop
  | .at a, y => RA N h a y
  | .tup xs, y => RT N h xs y
  | .rows xs, y => ∃ a items, y = .ref a ∧ ¬ N a ∧ h.IsList a items ∧ Paired (RT N h) xs items.toList ∧ xs.length ≤ lim
  | .lists xs, y => ∃ a items, y = .ref a ∧ ¬ N a ∧ h.IsList a items ∧ Paired (fun zs => RA N h (.ints zs)) xs items.toList ∧ xs.length ≤ lim
  | .own _, _ => False
  | .ownR _, _ => False
  | .mpu _ _, _ => False
noncomputable def nn (N₀ W : Addr → Prop) : Addr → Prop := fun a => N₀ a ∨ W a
noncomputable def RVar (N₀ W : Addr → Prop) (h : Heap) : LV → Value → Prop
  | .own xs, y => ∃ a items, y = .ref a ∧ W a ∧ PlainL h a items ∧ IntsAre items.toList xs ∧ xs.length ≤ lim
  | .ownR xs, y => ∃ a items, y = .ref a ∧ W a ∧ PlainL h a items ∧ Paired (RT (nn N₀ W) h) xs items.toList ∧ xs.length ≤ lim
  | .mpu _ _, _ => True
  | v, y => RV (nn N₀ W) h v y
noncomputable abbrev NewP (h h' : Heap) (y : Value) : Prop := ∀ a, y = .ref a → h.get? a = none ∧ ∃ o, h'.get? a = some o ∧ o.dict = none
theorem plain_of {h : Heap} {a : Addr} {its : Array Value} (l : h.IsList a its) (p : ∃ o, h.get? a = some o ∧ o.dict = none) : PlainL h a its := by
  obtain ⟨o, e, c, n, d⟩ := l
  obtain ⟨o', e', dn⟩ := p
  rw [e] at e'; cases e'
  exact ⟨o, n, e, c, dn, d⟩
noncomputable def isStore (o : Obj) : Bool := match o.data with
  | .dict .. => true
  | .cell _ => true
  | _ => false
noncomputable def Evo (W : Addr → Prop) (h h' : Heap) : Prop := ∀ b o, h.get? b = some o → ¬ W b → isStore o = false → h'.get? b = some o
section
variable {N N' N₀ W : Addr → Prop} {h h' : Heap}
theorem list_store {a : Addr} {items : Array Value} (l : h.IsList a items) : ∃ o, h.get? a = some o ∧ isStore o = false ∧ o.cls = .type "list" ∧ ∃ n, o.data = .seq items n := by
  obtain ⟨o, e, c, n, d⟩ := l
  exact ⟨o, e, by unfold isStore; rw [d], c, n, d⟩
theorem list_evo {a : Addr} {items : Array Value} (l : h.IsList a items) (q : ¬ W a) (k : Evo W h h') : h'.IsList a items := by
  obtain ⟨o, e, s, r⟩ := list_store l
  exact ⟨o, k a o e q s, r⟩
noncomputable def Lists (W : Addr → Prop) (h : Heap) : Prop := ∀ a, W a → ∃ items, PlainL h a items
noncomputable def SeqK (N : Addr → Prop) (h h' : Heap) : Prop := ∀ b o a n, h.get? b = some o → o.data = .seq a n → (o.cls = .type "list" → ¬ N b) → h'.get? b = some o
theorem tup_ne_list : (Value.type "tuple") ≠ .type "list" := fun q => by injection q with z; exact absurd z (by decide)
theorem Evo.seqk (e : Evo W h h') (hN : ∀ b, W b → N b) (L : Lists W h) : SeqK N h h' := fun b o a n eo d q => e b o eo (fun w => by
  obtain ⟨its, o', _, eo', c, _⟩ := L b w
  rw [eo] at eo'; cases eo'
  exact q c (hN b w)) (by unfold isStore; rw [d])
theorem SeqK.of_grow (k : ∀ b o, h.get? b = some o → h'.get? b = some o) : SeqK N h h' := fun b o _ _ e _ _ => k b o e
theorem RA.keepS {a : At} {y : Value} (r : RA N h a y) (k : SeqK N h h') : RA N h' a y := by
  cases a <;> try exact r
  obtain ⟨b, its, e, q, ⟨o, eo, c, n, d⟩, i, z⟩ := r
  exact ⟨b, its, e, q, ⟨o, k b o _ _ eo d fun _ => q, c, n, d⟩, i, z⟩
theorem RT.keepS {xs : List At} {y : Value} (r : RT N h xs y) (k : SeqK N h h') : RT N h' xs y := by
  obtain ⟨a, its, e, ⟨o, eo, c, n, d⟩, p⟩ := r
  exact ⟨a, its, e, ⟨o, k a o _ _ eo d fun q => absurd (c.symm.trans q) tup_ne_list, c, n, d⟩, p.mono fun _ _ q => q.keepS k⟩
theorem RV.keepS {v : LV} {y : Value} (r : RV N h v y) (k : SeqK N h h') : RV N h' v y := by
  cases v with
  | «at» a => exact RA.keepS r k
  | tup xs => exact RT.keepS r k
  | rows xs => obtain ⟨b, its, e, q, ⟨o, eo, c, n, d⟩, i, z⟩ := r; exact ⟨b, its, e, q, ⟨o, k b o _ _ eo d fun _ => q, c, n, d⟩, i.mono fun _ _ q => q.keepS k, z⟩
  | lists xs => obtain ⟨b, its, e, q, ⟨o, eo, c, n, d⟩, i, z⟩ := r; exact ⟨b, its, e, q, ⟨o, k b o _ _ eo d fun _ => q, c, n, d⟩, i.mono fun _ _ q => RA.keepS q k, z⟩
  | own _ => exact r
  | ownR _ => exact r
  | mpu _ _ => exact r
theorem RVar.keepS {v : LV} {y : Value} (r : RVar N₀ W h v y) (k : SeqK (nn N₀ W) h h') (ow : ∀ a its, Ow v = true → y = .ref a → W a → PlainL h a its → PlainL h' a its) : RVar N₀ W h' v y := by
  cases v with
  | own xs => obtain ⟨a, its, e, w, l, i⟩ := r; exact ⟨a, its, e, w, ow a its rfl e w l, i⟩
  | ownR xs => obtain ⟨a, its, e, w, l, p, z⟩ := r; exact ⟨a, its, e, w, ow a its rfl e w l, p.mono fun _ _ q => q.keepS k, z⟩
  | mpu _ _ => trivial
  | «at» a => exact RV.keepS (v := .at a) r k
  | tup xs => exact RV.keepS (v := .tup xs) r k
  | rows xs => exact RV.keepS (v := .rows xs) r k
  | lists xs => exact RV.keepS (v := .lists xs) r k
theorem RA.weak {a : At} {y : Value} (r : RA N h a y) (hN : ∀ b, (∃ o, h.get? b = some o) → N' b → N b) : RA N' h a y := by
  cases a <;> try exact r
  obtain ⟨b, its, e, q, l, i⟩ := r
  exact ⟨b, its, e, fun z => q (hN b (by obtain ⟨o, e, _⟩ := l; exact ⟨o, e⟩) z), l, i⟩
theorem RT.weak {xs : List At} {y : Value} (r : RT N h xs y) (hN : ∀ b, (∃ o, h.get? b = some o) → N' b → N b) : RT N' h xs y := by
  obtain ⟨a, its, e, l, p⟩ := r
  exact ⟨a, its, e, l, p.mono fun _ _ q => q.weak hN⟩
theorem RV.weak {v : LV} {y : Value} (r : RV N h v y) (hN : ∀ b, (∃ o, h.get? b = some o) → N' b → N b) : RV N' h v y := by
  have ex : ∀ {a : Addr} {its : Array Value}, h.IsList a its → ∃ o, h.get? a = some o := fun l => by obtain ⟨o, e, _⟩ := l; exact ⟨o, e⟩
  cases v with
  | «at» a => exact RA.weak r hN
  | tup xs => exact RT.weak r hN
  | rows xs => obtain ⟨b, its, e, q, l, i, z⟩ := r; exact ⟨b, its, e, fun z => q (hN b (ex l) z), l, i.mono fun _ _ q => q.weak hN, z⟩
  | lists xs => obtain ⟨b, its, e, q, l, i, z⟩ := r; exact ⟨b, its, e, fun z => q (hN b (ex l) z), l, i.mono fun _ _ q => q.weak hN, z⟩
  | own _ => exact r
  | ownR _ => exact r
  | mpu _ _ => exact r
theorem RA.keep2 {a : At} {y : Value} (r : RA N h a y) (k : SeqK N h h') (w : ∀ b, (∃ o, h.get? b = some o) → N' b → N b) : RA N' h' a y := by
  cases a <;> try exact r
  obtain ⟨b, its, e, q, ⟨o, eo, c, n, d⟩, i, z⟩ := r
  exact ⟨b, its, e, fun z => q (w b ⟨o, eo⟩ z), ⟨o, k b o _ _ eo d fun _ => q, c, n, d⟩, i, z⟩
theorem RT.keep2 {xs : List At} {y : Value} (r : RT N h xs y) (k : SeqK N h h') (w : ∀ b, (∃ o, h.get? b = some o) → N' b → N b) : RT N' h' xs y := by
  obtain ⟨a, its, e, ⟨o, eo, c, n, d⟩, p⟩ := r
  exact ⟨a, its, e, ⟨o, k a o _ _ eo d fun q => absurd (c.symm.trans q) tup_ne_list, c, n, d⟩, p.mono fun _ _ q => q.keep2 k w⟩
theorem RV.keep2 {v : LV} {y : Value} (r : RV N h v y) (k : SeqK N h h') (w : ∀ b, (∃ o, h.get? b = some o) → N' b → N b) : RV N' h' v y := by
  cases v with
  | «at» a => exact RA.keep2 r k w
  | tup xs => exact RT.keep2 r k w
  | rows xs => obtain ⟨b, its, e, q, ⟨o, eo, c, n, d⟩, i, z⟩ := r; exact ⟨b, its, e, fun z => q (w b ⟨o, eo⟩ z), ⟨o, k b o _ _ eo d fun _ => q, c, n, d⟩, i.mono fun _ _ q => q.keep2 k w, z⟩
  | lists xs => obtain ⟨b, its, e, q, ⟨o, eo, c, n, d⟩, i, z⟩ := r; exact ⟨b, its, e, fun z => q (w b ⟨o, eo⟩ z), ⟨o, k b o _ _ eo d fun _ => q, c, n, d⟩, i.mono fun _ _ q => RA.keep2 q k w, z⟩
  | own _ => exact r
  | ownR _ => exact r
  | mpu _ _ => exact r
noncomputable abbrev Grow (h h' : Heap) : Prop := ∀ b o, h.get? b = some o → h'.get? b = some o
theorem Evo.of_grow (k : Grow h h') : Evo W h h' := fun b o e _ _ => k b o e
theorem RA.grow {a : At} {y : Value} (r : RA N h a y) (k : Grow h h') : RA N h' a y := r.keepS (.of_grow k)
theorem RT.grow {xs : List At} {y : Value} (r : RT N h xs y) (k : Grow h h') : RT N h' xs y := r.keepS (.of_grow k)
theorem RV.grow {v : LV} {y : Value} (r : RV N h v y) (k : Grow h h') : RV N h' v y := r.keepS (.of_grow k)
theorem IsList.grow {a : Addr} {its : Array Value} (l : h.IsList a its) (k : Grow h h') : h'.IsList a its := by obtain ⟨o, e, r⟩ := l; exact ⟨o, k _ _ e, r⟩
theorem RVar.ow {v : LV} {y : Value} (r : RVar N₀ W h v y) (o : Ow v = true) : ∃ a its, y = .ref a ∧ W a ∧ PlainL h a its := by
  cases v with
  | own xs => obtain ⟨a, its, e, w, l, _⟩ := r; exact ⟨a, its, e, w, l⟩
  | ownR xs => obtain ⟨a, its, e, w, l, _⟩ := r; exact ⟨a, its, e, w, l⟩
  | _ => cases o
theorem RVar.grow {v : LV} {y : Value} (r : RVar N₀ W h v y) (k : Grow h h') : RVar N₀ W h' v y := r.keepS (.of_grow k) fun _ _ _ _ _ l => l.keeps k
theorem VarAt.grow {env : Env} {n : Str} {y : Value} (v : VarAt env h n y) (k : Grow h h') : VarAt env h' n y := by
  rcases v with ⟨a, m, hm, e⟩ | ⟨a, c, hc, hv⟩
  · exact .inl ⟨a, m, hm.keeps k, e⟩
  · exact .inr ⟨a, c, hc, hv.keeps k⟩
end
structure Mch (X : LX) (hs : Addr → Option Obj) (env : Env) (vars : List Str) (ρ : LLoc) (h : Heap) (I D L : Addr) (xs : List Int) (nm : Str) (σ : M) (mv : Nat) : Prop where
  own : ρ.at mv = some (.own xs)
  nam : vars[mv]? = some nm
  vL : VarAt env h nm (.ref L)
  mr : Mr (X.at I D L) { σ with mem := xs } h
  hD : hs D = none
  d0 : X.x.h₀.get? D = none
  l0 : X.x.h₀.get? L = none
  Dl : D ≠ env.locals
structure Rd (X : LX) (hs : Addr → Option Obj) (N₀ : Addr → Prop) (env : Env) (vars : List Str) (ρ : LLoc) (W : Addr → Prop) (h : Heap) : Prop where
  base : ∀ b o, X.x.h₀.get? b = some o → h.get? b = some o
  lists : Lists (nn N₀ W) h
  var : ∀ i n v, vars[i]? = some n → ρ.at i = some v → ∃ y, VarAt env h n y ∧ RVar N₀ W h v y
  mach : ∀ i n σ mv, vars[i]? = some n → ρ.at i = some (.mpu σ mv) → ∃ I D L xs nm, VarAt env h n (.ref I) ∧ Mch X hs env vars ρ h I D L xs nm σ mv
structure EnvL (env : Env) (vars : List Str) : Prop where
  kind : env.scope.kind = .function
  glob : env.globals = mainGlobals
  blt : env.builtins = builtinsNs
  nodbg : ∀ v ∈ vars, (v == ("__debug__" : Str)) = false
theorem Rd.grow {X : LX} {hs : Addr → Option Obj} {N₀ : Addr → Prop} {env : Env} {vars : List Str} {ρ : LLoc} {W : Addr → Prop} {h h' : Heap} (R : Rd X hs N₀ env vars ρ W h) (k : Grow h h') : Rd X hs N₀ env vars ρ W h' := by
  refine ⟨fun b o e => k b o (R.base b o e), fun a w => ?_, fun i n v hi hv => ?_, fun i n σ mv hi hv => ?_⟩
  · obtain ⟨its, l⟩ := R.lists a w; exact ⟨its, l.keeps k⟩
  · obtain ⟨y, a, r⟩ := R.var i n v hi hv; exact ⟨y, a.grow k, r.grow k⟩
  · obtain ⟨I, D, L, xs, nm, a, m⟩ := R.mach i n σ mv hi hv
    exact ⟨I, D, L, xs, nm, a.grow k, m.own, m.nam, m.vL.grow k, m.mr.grow k, m.hD, m.d0, m.l0, m.Dl⟩

noncomputable abbrev Ks (s s' : Shared) : Prop := ∃ h' t', s' = { s with heap := h', toks := t' }
noncomputable def Kg (s s' : Shared) : Prop := ∃ h' t', s' = { s with heap := h', toks := t' } ∧ Grow s.heap h'
theorem Kg.refl {s : Shared} : Kg s s := ⟨s.heap, s.toks, rfl, fun _ _ e => e⟩
theorem Kg.trans {a b c : Shared} (x : Kg a b) (y : Kg b c) : Kg a c := by
  obtain ⟨h, t, rfl, g⟩ := x; obtain ⟨h', t', rfl, g'⟩ := y
  exact ⟨h', t', rfl, fun b o e => g' b o (g b o e)⟩
theorem Kg.grow {s s' : Shared} (x : Kg s s') : Grow s.heap s'.heap := by obtain ⟨h, t, rfl, g⟩ := x; exact g
theorem Kg.tok {s : Shared} {t : Nat} : Kg s { s with toks := t } := ⟨s.heap, t, rfl, fun _ _ e => e⟩
theorem Kg.push {s : Shared} {o : Obj} {t : Nat} : Kg s { s with heap := s.heap.push o, toks := t } := ⟨_, t, rfl, fun _ _ e => Heap.get?_push_of_some _ e⟩
theorem Kg.push' {s : Shared} {o : Obj} : Kg s { s with heap := s.heap.push o } := ⟨_, s.toks, rfl, fun _ _ e => Heap.get?_push_of_some _ e⟩
theorem Kg.fresh {s s' : Shared} (x : Kg s s') : s.heap.get? s'.heap.objs.size = none := by
  cases e : s.heap.get? s'.heap.objs.size with
  | none => rfl
  | some o => exact absurd (Heap.lt_size (x.grow _ _ e)) (Nat.lt_irrefl _)
theorem Kg.ks {s s' : Shared} (x : Kg s s') : Ks s s' := by obtain ⟨h, t, e, _⟩ := x; exact ⟨h, t, e⟩
theorem Ks.refl {s : Shared} : Ks s s := ⟨s.heap, s.toks, rfl⟩
theorem Ks.trans {a b c : Shared} (x : Ks a b) (y : Ks b c) : Ks a c := by
  obtain ⟨h, t, rfl⟩ := x; obtain ⟨h', t', rfl⟩ := y
  exact ⟨h', t', rfl⟩
theorem fresh_notin {W : Addr → Prop} {h : Heap} {a : Addr} (x : Lists W h) (e : h.get? a = none) : ¬ W a := fun w => by
  obtain ⟨its, o, _, q, _⟩ := x a w; rw [e] at q; cases q
theorem fresh_size {h : Heap} : h.get? h.objs.size = none := by
  cases e : h.get? h.objs.size with
  | none => rfl
  | some o => exact absurd (Heap.lt_size e) (Nat.lt_irrefl _)

section
variable {X : LX} {hs : Addr → Option Obj} {N₀ : Addr → Prop} {env : Env} {vars : List Str} {ρ : LLoc} {W : Addr → Prop} {A : Around} {E' : Value → Shared → Prop} {s : Shared}
theorem load_at (EL : EnvL env vars) {i : Nat} {n : Str} {p : Pos} {y : Value} (hi : vars[i]? = some n) (hy : VarAt env s.heap n y) {Q : Value → Shared → Prop} (h : Q y s) : wpAny (model X.x.prog X.x.w) A (eval (.Name n p) env) Q E' s := by
  refine wpAny_Name ?_ (EL.nodbg n (List.mem_of_getElem? hi))
  rcases hy with ⟨k, m, hm, e⟩ | ⟨k, c, hc, hv⟩
  · exact wpAny_loadName_local EL.kind k hm e h
  · exact wpAny_loadName_cell EL.kind k hc hv h
theorem readV_of {v : Nat} {x : LV} (h : readV ρ v = some x) : ρ.at v = some x ∧ stable x = true := by
  refine bind_el h fun u e h => ?_
  obtain ⟨q, h⟩ := cond_of h
  cases h
  exact ⟨e, q⟩
theorem RVar.val {v : LV} {y : Value} {h : Heap} (r : RVar N₀ W h v y) (hv : stable v = true) : RV (nn N₀ W) h v y := by
  cases v <;> first | exact r | cases hv
theorem RV.var {v : LV} {y : Value} {h : Heap} (r : RV (nn N₀ W) h v y) : RVar N₀ W h v y := by
  cases v <;> first | exact r | exact r.elim
theorem load_var' (R : Rd X hs N₀ env vars ρ W s.heap) (EL : EnvL env vars) {i : Nat} {n : Str} {p : Pos} {v : LV} (hi : vars[i]? = some n) (hv : readV ρ i = some v) {Q : Value → Shared → Prop} (h : ∀ y, RV (nn N₀ W) s.heap v y → Q y s) :
    wpAny (model X.x.prog X.x.w) A (eval (.Name n p) env) Q E' s := by
  obtain ⟨e, st⟩ := readV_of hv
  obtain ⟨y, a, r⟩ := R.var i n v hi e
  exact load_at EL hi a (h y (r.val st))
theorem load_own (R : Rd X hs N₀ env vars ρ W s.heap) (EL : EnvL env vars) {i : Nat} {n : Str} {p : Pos} {xs : List Int} (hi : vars[i]? = some n) (hv : ρ.at i = some (.own xs)) {Q : Value → Shared → Prop}
    (h : ∀ a items, VarAt env s.heap n (.ref a) → W a → PlainL s.heap a items → IntsAre items.toList xs → xs.length ≤ lim → Q (.ref a) s) : wpAny (model X.x.prog X.x.w) A (eval (.Name n p) env) Q E' s := by
  obtain ⟨y, a, b, its, rfl, w, l, i, z⟩ := R.var i n _ hi hv
  exact load_at EL hi a (h b its a w l i z)
theorem load_builtin (EL : EnvL env vars) (g : s.heap.Ns mainGlobals X.mg) (b : s.heap.Ns builtinsNs X.mb) {n : Str} {p : Pos} {v : Value} (hk : env.kindOf n = some .globalImplicit) (h1 : X.mg n = none) (h2 : X.mb n = some v)
    (hd : (n == ("__debug__" : Str)) = false) {Q : Value → Shared → Prop} (h : Q v s) : wpAny (model X.x.prog X.x.w) A (eval (.Name n p) env) Q E' s :=
  Calls.Name_function_global EL.kind hk (Calls.loadGlobal_builtin (by rw [EL.glob]; exact g) h1 (by rw [EL.blt]; exact b) h2 h) hd
theorem load_global (EL : EnvL env vars) (g : s.heap.Ns mainGlobals X.mg) {n : Str} {p : Pos} {v : Value} (hk : env.kindOf n = some .globalImplicit) (h1 : X.mg n = some v)
    (hd : (n == ("__debug__" : Str)) = false) {Q : Value → Shared → Prop} (h : Q v s) : wpAny (model X.x.prog X.x.w) A (eval (.Name n p) env) Q E' s :=
  Calls.Name_function_global EL.kind hk (Calls.loadGlobal_global (by rw [EL.glob]; exact g) h1 h) hd
end
end Mine

end
section
open PySem PySem.W PyProof.Rows
set_option maxRecDepth 100000
namespace Mine
structure AOk (A : Around) (d : Nat) : Prop where
  hh : A.handled = none
  dp : A.depth + d ≤ recursionLimit
  un : A.units + 4 * d + 80 < cLine
theorem AOk.deeper {A : Around} {d : Nat} {env : Env} (a : AOk A (d + 1)) : AOk (A.deeper env) d := by
  obtain ⟨h1, h2, h3⟩ := a
  exact ⟨h1, by show A.depth + 1 + d ≤ _; lia, by show A.units + 3 + 4 * d + 80 < _; lia⟩
theorem lim_size : lim ≤ sizeLine := by rw [sizeLine_eq]; decide
theorem lim_63 {n : Nat} (h : n ≤ lim) : (n : Int) < 2 ^ 63 := by
  have : (lim : Int) < 2 ^ 63 := by decide
  have : (n : Int) ≤ lim := Int.ofNat_le.mpr h
  lia

section
variable {prog : Program} {w : World} {A : Around} {E : Value → Shared → Prop} {s : Shared}
theorem ints_len {items : Array Value} {xs : List Int} (h : IntsAre items.toList xs) : items.size = xs.length := by rw [← h.length, Array.length_toList]
theorem add_raw {l b : Addr} {is js : Array Value} {Q : Value → Shared → Prop} (hl : s.heap.IsList l is) (hb : s.heap.IsList b js) (hsz : is.size + js.size ≤ sizeLine)
    (h : Q (.ref s.heap.objs.size) { s with heap := s.heap.push { cls := .type "list", data := .seq (is ++ js) } }) : wpAny (model prog w) A (binaryOp .Add (.ref l) (.ref b)) Q E s := by
  obtain ⟨⟨cls, dd, data, sl⟩, ho, hc, n, hd⟩ := id hl
  obtain ⟨⟨cls2, dd2, data2, sl2⟩, ho2, hc2, n2, hd2⟩ := id hb
  simp only at hc hd hc2 hd2
  subst hc hd hc2 hd2
  exact concat_meets ⟨_, ho, rfl⟩ ⟨_, ho2, rfl⟩ noFill_list_add seq_list_add PySem.F.slot_list_add PySem.F.entry_list_add (PySem.F.args_list_add_2 _ _) (list_addW l b is js n n2 dd dd2 sl sl2 hsz) ⟨ho, ho2, h⟩
theorem ints_flat {vs : List Value} {xs : List Int} (h : IntsAre vs xs) : ∀ n, IntsAre (List.replicate n vs).flatten (List.replicate n xs).flatten
  | 0 => .nil
  | n + 1 => by rw [List.replicate_succ, List.replicate_succ, List.flatten_cons, List.flatten_cons]; exact h.append (ints_flat h n)
theorem mul_raw {l : Addr} {is : Array Value} {x : Int} {u : Tok} {Q : Value → Shared → Prop} (hl : s.heap.IsList l is) (h0 : 0 ≤ x) (h1 : x ≤ lim) (hsz : is.size * x.toNat ≤ lim)
    (h : Q (.ref s.heap.objs.size) { s with heap := s.heap.push { cls := .type "list", data := .seq (List.replicate x.toNat is.toList).flatten.toArray } }) : wpAny (model prog w) A (binaryOp .Mult (.ref l) (.int x u)) Q E s := by
  obtain ⟨⟨cls, d, data, sl⟩, ho, hcl, k, hd⟩ := id hl
  simp only at hcl hd
  subst hcl hd
  have hl : (lim : Int) < 2 ^ 24 := by decide
  have hl' : lim < 2 ^ 24 := by decide
  have hsz' : is.size * x.toNat ≤ 2 ^ 24 := by lia
  refine wpAny_binaryOp_repeat_ref (T := "list") (U := "int") (by decide) ⟨_, ho, rfl⟩ (fun s' => typeIs_int s' x u) noFill_list_mul F.fills_int_mul F.slot_int_rmul repeat_list F.slot_int_index.lookup
    (call_meets F.slot_int_rmul (typeIs_int s x u) F.entry_int_rmul (F.args_int_rmul_2 _ _) (lm_int_rmul_list_any x u l is k d sl)
      ⟨ho, rfl, ⟨_, ho, rfl⟩, call_meets F.slot_list_mul ⟨_, ho, rfl⟩ F.entry_list_mul (F.args_list_mul_2 _ _)
        (lm_list_mul_any l is k d sl x u (by simp [Builtin.List.listFitsIndex]; lia) (by lia) (by simp [Builtin.List.listTooLong, sizeLine]; lia))
        ⟨ho, ?_⟩⟩)
  rw [listMul_foldl_if is x.toNat]
  exact h
end
end Mine

end
section
open PySem PySem.W PyProof.Rows
set_option maxRecDepth 100000
namespace Mine
noncomputable def bltT : List (Str × Value) := [("len", .builtin "len"), ("sum", .builtin "sum"), ("divmod", .builtin "divmod"), ("range", .type "range"), ("enumerate", .type "enumerate"), ("sorted", .builtin "sorted")]
structure LOk (X : LX) : Prop where
  ok : ∀ I D L, X.x.h₀.get? D = none → X.x.h₀.get? L = none → D ≠ L → Ok (X.at I D L)
  sm : Small X.x
  g : X.x.h₀.Ns mainGlobals X.mg
  b : X.x.h₀.Ns builtinsNs X.mb
  blt : ∀ n v, (n, v) ∈ bltT → X.mg n = none ∧ X.mb n = some v
  mpu : X.mg "MPU" = some (.ref X.x.C)
  keep : keepIn X.x.K (.ref X.x.C) = true
  makes : makesIn X.x.K X.x.C = true
  init : findIn X.x.K (.ref X.x.C) "__init__" = some (some (.ref (X.x.fnA X.im)))
  initT : typeIn X.x.K (.ref (X.x.fnA X.im)) = some (.type "function")
  initB : ∀ (s : Shared) (fd : FuncData) (md : MethD) (self m p : Value), X.x.c.P[X.im]? = some md → X.x.K.lookup (X.x.fnA X.im) = some ⟨.type "function", none, .func fd, #[]⟩ → X.x.K.In s.heap →
    BindsTo s fd ⟨[self], [("memory", m), ("pc", p)]⟩ ((md.vars.take md.np).zip [self, m, p])
noncomputable def clOf (cells : List (Str × Addr)) : List (Str × NameKind) → List (Str × Addr) → List (Str × Addr)
  | [], acc => acc
  | (n, k) :: r, acc => match k == .free, cells.lookup n with
    | true, some c => clOf cells r ((n, c) :: acc)
    | _, _ => clOf cells r acc
theorem closure_go {env : Env} (f : Str × NameKind → List (Str × Addr) → Sem (ForInStep (List (Str × Addr))))
    (hf : ∀ n k cs, f (n, k) cs = if k == .free then (do let c ← cellOf env n; pure (.yield ((n, c) :: cs))) else pure (.yield cs)) :
    ∀ (names : List (Str × NameKind)) (acc : List (Str × Addr)), (∀ y ∈ names, y.2 = .free → ∃ c, env.cells.lookup y.1 = some c) → forIn names acc f = (pure (clOf env.cells names acc) : Sem _)
  | [], acc, _ => rfl
  | (n, k) :: r, acc, h => by
    rw [List.forIn_cons, hf]
    have hr := fun y hy => h y (List.mem_cons_of_mem _ hy)
    unfold clOf
    cases hk : k == NameKind.free with
    | false =>
      simp only [Bool.false_eq_true, if_false, pure_bind]
      exact closure_go f hf r acc hr
    | true =>
      obtain ⟨c, hc⟩ := h (n, k) List.mem_cons_self (beq_iff_eq.mp hk)
      dsimp only at hc
      simp only [if_true, hc, cellOf, pure_bind, bind_pure_comp]
      exact closure_go f hf r _ hr
theorem closure_eq {env : Env} {scope : Scope} (h : ∀ y ∈ scope.names, y.2 = .free → ∃ c, env.cells.lookup y.1 = some c) : closureFor scope env = pure (clOf env.cells scope.names []) := by
  have e := closure_go (env := env) (fun x cs => match x with | (n, k) => if (k == .free) = true then (do let c ← cellOf env n; pure (.yield ((n, c) :: cs))) else pure (.yield cs)) (fun _ _ _ => rfl) scope.names [] h
  show ((forIn scope.names [] fun x cs => match x with | (n, k) => if (k == .free) = true then (do let c ← cellOf env n; pure (.yield ((n, c) :: cs))) else pure (.yield cs)) >>= fun cs => (pure cs : Sem _)) = _
  rw [e]; rfl
theorem clOf_lookup {cells : List (Str × Addr)} : ∀ (names : List (Str × NameKind)) (acc : List (Str × Addr)), (∀ n c, acc.lookup n = some c → cells.lookup n = some c) →
    (∀ n c, (clOf cells names acc).lookup n = some c → cells.lookup n = some c) ∧ (∀ n, ((acc.lookup n).isSome = true ∨ ((n, NameKind.free) ∈ names ∧ (cells.lookup n).isSome = true)) → ((clOf cells names acc).lookup n).isSome = true)
  | [], acc, h => ⟨h, fun n q => by rcases q with q | ⟨q, _⟩; exact q; cases q⟩
  | (m, k) :: r, acc, h => by
    unfold clOf
    split
    · rename_i c hk hc
      have h' : ∀ n d, ((m, c) :: acc).lookup n = some d → cells.lookup n = some d := fun n d q => by
        rw [List.lookup_cons] at q
        cases e : n == m with
        | true => rw [e] at q; cases q; rw [beq_iff_eq.mp e]; exact hc
        | false => rw [e] at q; exact h n d q
      obtain ⟨a, b⟩ := clOf_lookup r ((m, c) :: acc) h'
      refine ⟨a, fun n q => b n ?_⟩
      rcases q with q | ⟨q, q'⟩
      · left; rw [List.lookup_cons]; cases e : n == m <;> simp [q]
      · rcases List.mem_cons.mp q with e | q
        · cases e; left; rw [List.lookup_cons]; simp
        · exact .inr ⟨q, q'⟩
    · rename_i hn
      obtain ⟨a, b⟩ := clOf_lookup r acc h
      refine ⟨a, fun n q => b n ?_⟩
      rcases q with q | ⟨q, q'⟩
      · exact .inl q
      · rcases List.mem_cons.mp q with e | q
        · cases e
          obtain ⟨c, hc⟩ := Option.isSome_iff_exists.mp q'
          exact absurd hc (hn c rfl)
        · exact .inr ⟨q, q'⟩
theorem relabel_cell {env : Env} : ∀ {names : List (Str × NameKind)} {n : Str}, (∀ y ∈ names, y.2 ≠ .cell) → env.scope.kind = .function →
    ((names.map fun (n, k) => if (k == NameKind.free && env.scope.kind == .function && env.kindOf n == some .cell) then (n, NameKind.cell) else (n, k)).lookup n = some .cell ↔ names.lookup n = some .free ∧ env.kindOf n = some .cell)
  | [], n, _, _ => by simp
  | (m, k) :: r, n, h, hk => by
    have ih := @relabel_cell env r n (fun y hy => h y (List.mem_cons_of_mem _ hy)) hk
    have hkc : k ≠ .cell := h (m, k) List.mem_cons_self
    have e1 : ((if (k == NameKind.free && env.scope.kind == .function && env.kindOf m == some .cell) = true then (m, NameKind.cell) else (m, k)) : Str × NameKind).1 = m := by split <;> rfl
    show List.lookup n ((if (k == NameKind.free && env.scope.kind == .function && env.kindOf m == some .cell) = true then (m, NameKind.cell) else (m, k)) :: _) = _ ↔ _
    generalize hg : (if (k == NameKind.free && env.scope.kind == .function && env.kindOf m == some .cell) = true then (m, NameKind.cell) else (m, k)) = z at e1
    obtain ⟨z1, z2⟩ := z
    dsimp only at e1
    subst e1
    rw [List.lookup_cons, List.lookup_cons]
    cases e : n == z1 with
    | false => exact ih
    | true =>
      have en : n = z1 := beq_iff_eq.mp e
      subst en
      dsimp only
      simp only [Option.some.injEq]
      constructor
      · intro q
        subst q
        split at hg
        · rename_i c
          simp only [Bool.and_eq_true, beq_iff_eq] at c
          exact ⟨c.1.1, c.2⟩
        · cases hg; exact absurd rfl hkc
      · rintro ⟨rfl, q⟩
        rw [if_pos (by simp [hk, q])] at hg
        cases hg; rfl
theorem relabel_glob {env : Env} : ∀ {names : List (Str × NameKind)} {n : Str} {k : NameKind}, k ≠ .free → k ≠ .cell → names.lookup n = some k →
    (names.map fun (n, k) => if (k == NameKind.free && env.scope.kind == .function && env.kindOf n == some .cell) then (n, NameKind.cell) else (n, k)).lookup n = some k
  | [], _, _, _, _, h => by simp at h
  | (m, j) :: r, n, k, h1, h2, h => by
    have ih := @relabel_glob env r n k h1 h2
    show List.lookup n ((if (j == NameKind.free && env.scope.kind == .function && env.kindOf m == some .cell) = true then (m, NameKind.cell) else (m, j)) :: _) = _
    cases hx : n == m with
    | true =>
      simp only [List.lookup_cons, hx] at h
      cases h
      have : (j == NameKind.free) = false := by simpa using h1
      simp [List.lookup_cons, hx, this]
    | false =>
      simp only [List.lookup_cons, hx] at h
      by_cases hc : (j == NameKind.free && env.scope.kind == .function && env.kindOf m == some .cell) = true
      · rw [if_pos hc]; simp only [List.lookup_cons, hx]; exact ih h
      · rw [if_neg hc]; simp only [List.lookup_cons, hx]; exact ih h
end Mine

end
section
open PySem PySem.W PyProof.Rows
set_option maxRecDepth 100000
set_option linter.unusedSimpArgs false
set_option linter.unusedVariables false
namespace Mine
noncomputable def fl (b : Bool) (N : Addr → Prop) : Addr → Prop := fun a => b = true ∧ N a
theorem RV.unfl {N : Addr → Prop} {h : Heap} {v : LV} {y : Value} {b : Bool} (r : RV (fl b N) h v y) (hb : b = true) : RV N h v y := r.weak fun _ _ q => ⟨hb, q⟩
theorem RV.tofl {N : Addr → Prop} {h : Heap} {v : LV} {y : Value} {b : Bool} (r : RV N h v y) : RV (fl b N) h v y := r.weak fun _ _ q => q.2
noncomputable def CallLOk (X : LX) (A : Around) (cf : Nat → List LV → Option LV) : Prop :=
  ∀ (f : Nat) (args : List LV) (v : LV), cf f args = some v → ∃ fd, X.F[f]? = some fd ∧ X.mg fd.nm = some (.ref (X.fA f)) ∧ (fd.nm == ("__debug__" : Str)) = false ∧ (∃ o fdt, X.x.h₀.get? (X.fA f) = some o ∧ o.data = .func fdt) ∧
    ∀ (s : Shared) (N : Addr → Prop) (vals : List Value) (R : Result → Shared → Prop), (∀ b o, X.x.h₀.get? b = some o → s.heap.get? b = some o) → Lists N s.heap → Paired (RV N s.heap) args vals →
      (∀ y s', RV N s'.heap v y → Kg s s' → R (.ok (.ret y)) s') → codeAny (model X.x.prog X.x.w) A (.call (.ref (X.fA f)) ⟨vals, []⟩) R s
structure KOk (k : LC) (env : Env) : Prop where
  g : ∀ n, k.names.lookup n = some .globalImplicit → env.kindOf n = some .globalImplicit
  c : ∀ n, k.names.lookup n = some .cell → env.kindOf n = some .cell ∧ ∃ c, env.cells.lookup n = some c
theorem isVarL_of {k : LC} {v : Nat} {n : Str} (h : k.isVar v n = true) : k.vars[v]? = some n := beq_iff_eq.mp h
theorem isGlob_of {k : LC} {n : Str} (h : k.isGlob n = true) : k.names.lookup n = some .globalImplicit := beq_iff_eq.mp h
theorem plainL_sub {e : PySem.Expr} (h : plainL e = true) (o i : Value) : subscripted e false o i = operate [o, i] (getItem o i) := by
  cases e <;> first | rfl | cases h
theorem plainL_star {e : PySem.Expr} (h : plainL e = true) (env : Env) (rest : List PySem.Expr) : starEach (e :: rest) env = (false, eval e env) :: starEach rest env := by
  cases e <;> first | rfl | cases h
theorem plainL_marks {e : PySem.Expr} (h : plainL e = true) (op : COp) : behindInMarks op.op e = false := op_marks op e (by cases e <;> first | rfl | cases h)
section
variable {X : LX} {A : Around} {E' : Value → Shared → Prop} {s : Shared}
theorem LOp.binary {op : LOp} {a b r : Int} {t u : Tok} (e : op.ev a b = some r) {Q : Value → Shared → Prop} (h : ∀ t, Q (.int r t) { s with toks := s.toks + 1 }) : wpAny (model X.x.prog X.x.w) A (binaryOp op.op (.int a t) (.int b u)) Q E' s := by
  cases op <;> simp only [LOp.ev, Option.some.injEq] at e
  · subst e; exact add_int (h _)
  · subst e; exact sub_int (h _)
  · split at e
    · rename_i q; cases e
      refine PyProof.Rows.mul_int (h _) ?_
      rcases q with q | q
      · exact IntMulOk.of_left (PySem.intBits_le_64 (by lia) (by lia))
      · exact IntMulOk.of_right (PySem.intBits_le_64 (by lia) (by lia))
    · cases e
  · split at e
    · rename_i q; cases e; exact floordiv_int q.1 (h _) (Or.inl (PyProof.noPylong_small q.2))
    · cases e
  · split at e
    · rename_i q; cases e; exact mod_int' q (h _)
    · cases e
  · split at e
    · rename_i q; cases e; exact pow_int_small q.1 (by lia) q.2.2 (h _)
    · cases e
theorem LOp.inplace {op : LOp} {a b r : Int} {t u : Tok} (e : op.ev a b = some r) {Q : Value → Shared → Prop} (h : ∀ t, Q (.int r t) { s with toks := s.toks + 1 }) : wpAny (model X.x.prog X.x.w) A (inplaceOp op.op (.int a t) (.int b u)) Q E' s := by
  cases op <;> simp only [LOp.ev, Option.some.injEq] at e
  · subst e; exact PySem.P.iadd_int (h _)
  · subst e; exact PySem.P.isub_int (h _)
  · split at e
    · rename_i q; cases e
      refine imul_int (h _) ?_
      rcases q with q | q
      · exact IntMulOk.of_left (PySem.intBits_le_64 (by lia) (by lia))
      · exact IntMulOk.of_right (PySem.intBits_le_64 (by lia) (by lia))
    · cases e
  · split at e
    · rename_i q; cases e; exact ifloordiv_int q.1 (h _) (Or.inl (PyProof.noPylong_small q.2))
    · cases e
  · split at e
    · rename_i q; cases e; exact imod_int q (h _)
    · cases e
  · split at e
    · rename_i q; cases e; exact ipow_int_small q.1 (by lia) q.2.2 (h _)
    · cases e
end
end Mine

end
section
open PySem PySem.W PyProof.Rows
set_option maxRecDepth 100000
set_option maxHeartbeats 1000000
set_option linter.unusedSimpArgs false
set_option linter.unusedVariables false
set_option linter.unusedSectionVars false
namespace Mine
section
variable (X : LX) (A : Around) (cf : Nat → List LV → Option LV)
noncomputable def GoodE (e : LE) : Prop := ∀ (k : LC) (env : Env) (ρ : LLoc) (hs : Addr → Option Obj) (N₀ W : Addr → Prop) (ex : PySem.Expr) (v : LV), trL X.F k e ex = true → evL cf e ρ = some v → EnvL env k.vars → KOk k env → ρ.length = k.vars.length →
  ∀ (s : Shared) (Q : Value → Shared → Prop) (E' : Value → Shared → Prop), Rd X hs N₀ env k.vars ρ W s.heap → (∀ y s', RV (fl (stb e) (nn N₀ W)) s'.heap v y → Kg s s' → Q y s') → wpAny (model X.x.prog X.x.w) A (eval ex env) Q E' s
noncomputable def GoodF (e : LE) : Prop := ∀ (k : LC) (env : Env) (ρ : LLoc) (hs : Addr → Option Obj) (N₀ W : Addr → Prop) (ex : PySem.Expr) (v : LV), trL X.F k e ex = true → evL cf e ρ = some v → EnvL env k.vars → KOk k env → ρ.length = k.vars.length →
  ∀ (s : Shared) (Q : Value → Shared → Prop) (E' : Value → Shared → Prop), Rd X hs N₀ env k.vars ρ W s.heap → (∀ y s', RV (fl (stb e) (nn N₀ W)) s'.heap v y → Kg s s' → NewP s.heap s'.heap y → Q y s') → wpAny (model X.x.prog X.x.w) A (eval ex env) Q E' s
noncomputable def GoodT (e : LE) : Prop := ∀ (k : LC) (env : Env) (ρ : LLoc) (hs : Addr → Option Obj) (N₀ W : Addr → Prop) (ex : PySem.Expr) (v : LV) (b : Bool), trL X.F k e ex = true → evL cf e ρ = some v → truthL v = some b → EnvL env k.vars → KOk k env → ρ.length = k.vars.length →
  ∀ (s : Shared) (Q : Bool → Shared → Prop) (E' : Value → Shared → Prop), Rd X hs N₀ env k.vars ρ W s.heap → (∀ s', Kg s s' → Q b s') → wpAny (model X.x.prog X.x.w) A (isTrue ex env (eval ex env)) Q E' s
noncomputable def GoodEs (es : LEs) : Prop := ∀ (k : LC) (env : Env) (ρ : LLoc) (hs : Addr → Option Obj) (N₀ W : Addr → Prop) (l : List PySem.Expr) (vs : List LV) (pos : Pos), trLs X.F k es l = true → evLs cf es ρ = some vs → EnvL env k.vars → KOk k env → ρ.length = k.vars.length →
  ∀ (s : Shared) (Q : List Value → Shared → Prop) (E' : Value → Shared → Prop), Rd X hs N₀ env k.vars ρ W s.heap → (∀ ys s', Paired (RV (fl (stb.stbs es) (nn N₀ W)) s'.heap) vs ys → Kg s s' → Q ys s') → wpAny (model X.x.prog X.x.w) A (spliced (backTo pos (starEach l env))) Q E' s
inductive SrcIt (N₀ W : Addr → Prop) (s : Shared) (items : List LV) (it : Value) (s₂ : Shared) : Prop
  | mk (I : Addr) (fp : List Addr) (P : Nat → Value → Prop) (St : Nat → Heap → Prop) (hp : Heap) (eq : it = .ref I) (sz : items.length ≤ lim) (wk : Walks X.x.prog X.x.w A I fp [I] items.length P St) (st : St 0 s₂.heap) (nI : hp.get? I = none) (g1 : Grow s.heap hp) (g2 : Grow hp s₂.heap) (kg : Kg s s₂) (eI : ∃ o, s₂.heap.get? I = some o)
    (hfp : ∀ b ∈ fp, b = I ∨ ∃ o, hp.get? b = some o ∧ isStore o = false ∧ ¬ W b)
    (hP : ∀ i v, P i v → ∃ lv, items[i]? = some lv ∧ RV (nn N₀ W) hp lv v)
    (stK : ∀ i (h : Heap) b o, St i h → b ∈ fp → h.get? b = some o → isStore o = false)
    (itK : ∀ i (h : Heap), St i h → ∃ o vs, h.get? I = some o ∧ o.data = .fields vs ∧ o.cls ≠ .type "method")
    (go : ∀ i (s' : Shared) T elts j pos (Q : Unit → Shared → Prop) E, St i s'.heap → Q () s' → wpAny (model X.x.prog X.x.w) A (letOwnedTupleGo (.Tuple elts j pos) (.ref I) (.ref T)) Q E s')
noncomputable def GoodS (src : LSrc) : Prop := ∀ (k : LC) (env : Env) (ρ : LLoc) (hs : Addr → Option Obj) (N₀ W : Addr → Prop) (ex : PySem.Expr) (items : List LV), trSrc X.F k src ex = true → evSrc cf src ρ = some items → EnvL env k.vars → KOk k env → ρ.length = k.vars.length →
  ∀ (s : Shared) (Q : Value → Shared → Prop) (E' : Value → Shared → Prop), Rd X hs N₀ env k.vars ρ W s.heap → (∀ it s₂, SrcIt X A N₀ W s items it s₂ → Q it s₂) → wpAny (model X.x.prog X.x.w) A (eval ex env) (fun x s₁ => wpAny (model X.x.prog X.x.w) A (pyIter x) Q E' s₁) E' s
end
section
variable {X : LX} {A : Around} {cf : Nat → List LV → Option LV}
theorem truthyL_of {s : Shared} {N : Addr → Prop} {v : LV} {y : Value} {b : Bool} {Q : Bool → Shared → Prop} {E' : Value → Shared → Prop} (r : RV N s.heap v y) (t : truthL v = some b) (h : ∀ s', Kg s s' → Q b s') : wpAny (model X.x.prog X.x.w) A (truthy y) Q E' s := by
  cases v with
  | «at» a =>
    cases a with
    | int i => obtain ⟨u, rfl⟩ := r; cases t; exact PyProof.Rows.truthy_int (h _ .refl)
    | bool c => obtain rfl := r; cases t; exact wpAny_truthy_bool (h _ .refl)
    | none => obtain rfl := r; cases t; exact truthy_none (h _ .refl)
    | «ints» xs =>
      obtain ⟨a, its, rfl, _, l, i, z⟩ := r
      cases t
      have hz : its.size = xs.length := ints_len i
      have e : (!its.isEmpty) = !xs.isEmpty := by
        unfold Array.isEmpty
        rw [hz]
        cases xs <;> simp
      exact wpAny_truthy_list l (lim_63 (by rw [hz]; exact z)) (by rw [e]; exact h _ .tok)
  | tup xs => cases t
  | rows xs => cases t
  | lists xs => cases t
  | own xs => cases t
  | ownR xs => cases t
  | mpu σ mv => cases t
theorem goodT_of {e : LE} (g : GoodE X A cf e) (hi : ∀ k ex env, trL X.F k e ex = true → isTrue ex env (eval ex env) = (do let v ← eval ex env; standAt ex.pos; holding [v] (truthy v))) : GoodT X A cf e :=
  fun k env ρ hs N₀ W ex v b ht he hb EL KO hl s Q E' R h =>
    isTrue_plain (g k env ρ hs N₀ W ex v ht he EL KO hl s _ _ R fun y s' r k' => truthyL_of r hb fun s'' k'' => h s'' (k'.trans k'')) (hi k ex env ht)
theorem g_int (i : Int) : GoodE X A cf (.int i) := by
  intro k env ρ hs N₀ W ex v ht he EL KO hl s Q E' R h
  refine inv_trL_int ht fun _ _ _ hx₀ ht => ?_
  subst hx₀
  obtain rfl := beq_iff_eq.mp ht
  cases he
  exact wpAny_Constant_int (h _ _ ⟨_, rfl⟩ .tok)
theorem g_bool (b : Bool) : GoodE X A cf (.bool b) := by
  intro k env ρ hs N₀ W ex v ht he EL KO hl s Q E' R h
  refine inv_trL_bool ht fun _ _ _ hx₀ ht => ?_
  subst hx₀
  obtain rfl := beq_iff_eq.mp ht
  cases he
  exact wpAny_Constant_bool (h _ _ rfl .refl)
theorem g_none : GoodE X A cf .none := by
  intro k env ρ hs N₀ W ex v ht he EL KO hl s Q E' R h
  refine inv_trL_none ht fun _ _ hx₀ ht => ?_
  subst hx₀
  cases he
  exact wpAny_Constant_none (h _ _ rfl .refl)
theorem g_var (i : Nat) : GoodE X A cf (.var i) := by
  intro k env ρ hs N₀ W ex v ht he EL KO hl s Q E' R h
  refine inv_trL_var ht fun _ _ hx₀ ht => ?_
  subst hx₀
  exact load_var' R EL (isVarL_of ht) he fun y r => h y s r.tofl .refl
theorem g_own (i : Nat) : GoodE X A cf (.own i) := by
  intro k env ρ hs N₀ W ex v ht he EL KO hl s Q E' R h
  refine inv_trL_own ht fun _ _ hx₀ ht => ?_
  subst hx₀
  refine bind_el he fun u hx he => ?_
  refine map_el he fun xs hu e => ?_
  cases e
  cases LV.own?_of hu
  exact load_own R EL (isVarL_of ht) hx fun a its _ _ l ia z => h _ s ⟨a, its, rfl, fun q => (by cases q.1), l.isList, ia, z⟩ .refl
theorem fresh_ints {N : Addr → Prop} {b : Bool} {h : Heap} {its : List Value} {xs : List Int} (x : Lists N h) (i : IntsAre its xs) (z : xs.length ≤ lim) : RV (fl b N) (h.push { cls := .type "list", data := .seq its.toArray }) (.ints xs) (.ref h.objs.size) :=
  ⟨_, its.toArray, rfl, fun q => fresh_notin x fresh_size q.2, ⟨_, Heap.get?_push_size _ rfl, rfl, _, rfl⟩, by simpa using i, z⟩
theorem GoodF.toE {e : LE} (g : GoodF X A cf e) : GoodE X A cf e := fun k env ρ hs N₀ W ex v ht he EL KO hl s Q E' R h => g k env ρ hs N₀ W ex v ht he EL KO hl s Q E' R fun y s' r k' _ => h y s' r k'
theorem paired_app {α β : Type} {F : α → β → Prop} : ∀ {l₁ : List α} {l₂ : List β} {m₁ : List α} {m₂ : List β}, Paired F l₁ l₂ → Paired F m₁ m₂ → Paired F (l₁ ++ m₁) (l₂ ++ m₂)
  | _, _, _, _, .nil, h => h
  | _, _, _, _, .cons r p, h => .cons r (paired_app p h)
theorem rowsE_list {N : Addr → Prop} {h : Heap} {x : LV} {y : Value} {xs : List (List At)} (r : RV N h x y) (e : x.rowsE? = some xs) : ∃ a items, y = .ref a ∧ h.IsList a items ∧ Paired (RT N h) xs items.toList := by
  rcases LV.rowsE?_of e with rfl | ⟨rfl, rfl⟩
  · obtain ⟨a, its, e, _, l, p, _⟩ := r; exact ⟨a, its, e, l, p⟩
  · obtain ⟨a, its, e, _, l, i, _⟩ := r
    refine ⟨a, its, e, l, ?_⟩
    generalize its.toList = L at i
    cases i; exact .nil
theorem bin_of {op : LOp} {x y v : LV} {a b : Value} {s : Shared} {N : Addr → Prop} {f1 f2 f3 : Bool} (L : Lists N s.heap) (ra : RV (fl f1 N) s.heap x a) (rb : RV (fl f2 N) s.heap y b) (h3 : f3 = true → f1 = true ∧ f2 = true) (he : binV op x y = some v) {Q : Value → Shared → Prop} {E' : Value → Shared → Prop}
    (h : ∀ y s', RV (fl f3 N) s'.heap v y → Kg s s' → (∀ a, y = .ref a → s.heap.objs.size = a ∧ ∃ o, s'.heap.get? a = some o ∧ o.dict = none) → Q y s') : wpAny (model X.x.prog X.x.w) A (binaryOp op.op a b) Q E' s := by
  rcases alt_of he with ⟨i, hi, he⟩ | he
  · obtain ⟨j, hj, he⟩ := bind_of he
    refine map_el he fun r hr e => ?_
    cases e
    cases LV.int?_of hi
    cases LV.int?_of hj
    obtain ⟨t, rfl⟩ := ra
    obtain ⟨u, rfl⟩ := rb
    exact LOp.binary hr fun t => h _ _ ⟨t, rfl⟩ .tok fun a q => nomatch q
  rcases orO_of he with he | he
  · obtain ⟨xs, hxs, he⟩ := bind_of he
    cases LV.ints?_of hxs
    obtain ⟨a1, i1, rfl, _, l1, n1, _⟩ := ra
    rcases alt_of he with ⟨ys, hys, he⟩ | he
    · obtain ⟨⟨rfl, q⟩, e⟩ := ite_of he
      cases e
      cases LV.ints?_of hys
      obtain ⟨a2, i2, rfl, _, l2, n2, _⟩ := rb
      refine add_raw l1 l2 (by rw [ints_len n1, ints_len n2]; rw [List.length_append] at q; exact Nat.le_trans q lim_size) ?_
      have e : (i1 ++ i2) = (i1.toList ++ i2.toList).toArray := by rw [← Array.toList_append, Array.toArray_toList]
      rw [e]
      exact h _ _ (fresh_ints L (n1.append n2) q) .push' fun a q => by cases q; exact ⟨rfl, _, Heap.get?_push_size _ rfl, rfl⟩
    · obtain ⟨n, hn, he⟩ := bind_of he
      obtain ⟨⟨rfl, q0, q1, q2⟩, e⟩ := ite_of he
      cases e
      cases LV.int?_of hn
      obtain ⟨u, rfl⟩ := rb
      refine mul_raw l1 q0 q1 (by rw [ints_len n1]; exact q2) (h _ _ (fresh_ints L (ints_flat n1 _) ?_) .push' fun a q => by cases q; exact ⟨rfl, _, Heap.get?_push_size _ rfl, rfl⟩)
      unfold repeatL
      rw [List.length_flatten, List.map_replicate, List.sum_replicate_nat, Nat.mul_comm]
      exact q2
  · obtain ⟨xs, hxs, he⟩ := bind_of he
    refine bind_el he fun ys hys he => ?_
    obtain ⟨⟨rfl, q⟩, e⟩ := ite_of he
    cases e
    obtain ⟨a1, i1, rfl, l1, p1⟩ := rowsE_list ra hxs
    obtain ⟨a2, i2, rfl, l2, p2⟩ := rowsE_list rb hys
    refine add_raw l1 l2 (by rw [← Array.length_toList, ← Array.length_toList, ← p1.length, ← p2.length]; rw [List.length_append] at q; exact Nat.le_trans q lim_size) ?_
    have gr : Grow s.heap (s.heap.push { cls := .type "list", data := .seq (i1 ++ i2) }) := (Kg.push' (s := s)).grow
    have w1 : ∀ {x : List At} {y : Value}, RT (fl f1 N) s.heap x y → RT (fl f3 N) (s.heap.push { cls := .type "list", data := .seq (i1 ++ i2) }) x y := fun r => RT.grow (r.weak fun _ _ z => ⟨(h3 z.1).1, z.2⟩) gr
    have w2 : ∀ {x : List At} {y : Value}, RT (fl f2 N) s.heap x y → RT (fl f3 N) (s.heap.push { cls := .type "list", data := .seq (i1 ++ i2) }) x y := fun r => RT.grow (r.weak fun _ _ z => ⟨(h3 z.1).2, z.2⟩) gr
    exact h _ _ ⟨_, i1 ++ i2, rfl, fun z => fresh_notin L fresh_size z.2, ⟨_, Heap.get?_push_size _ rfl, rfl, _, rfl⟩, by rw [Array.toList_append]; exact paired_app (p1.mono fun _ _ => w1) (p2.mono fun _ _ => w2), q⟩ .push' fun a q => by cases q; exact ⟨rfl, _, Heap.get?_push_size _ rfl, rfl⟩
theorem g_bin {op : LOp} {a b : LE} (ga : GoodE X A cf a) (gb : GoodE X A cf b) : GoodF X A cf (.bin op a b) := by
  intro k env ρ hs N₀ W ex v ht he EL KO hl s Q E' R h
  refine inv_trL_bin ht fun _ _ _ _ hx₀ ht => ?_
  subst hx₀
  refine and_el ht fun ht hb => ?_
  refine and_el ht fun ht ha => ?_
  cases beq_iff_eq.mp ht
  refine bind_el he fun x hx he => ?_
  refine bind_el he fun y hy he => ?_
  refine wpAny_BinOp (ga k env ρ hs N₀ W _ x ha hx EL KO hl s _ _ R fun ya s₁ ra ka => gb k env ρ hs N₀ W _ y hb hy EL KO hl s₁ _ _ (R.grow ka.grow) fun yb s₂ rb kb => ?_)
  have kk := ka.trans kb
  have L₂ := (R.grow kk.grow).lists
  exact bin_of L₂ (ra.grow kb.grow) rb (fun q => Bool.and_eq_true_iff.mp q) he (fun y s' r k' n => h y s' r (kk.trans k') fun a q => ⟨by rw [← (n a q).1]; exact kk.fresh, (n a q).2⟩)
theorem reads_ints {h : Heap} : ∀ {vs : List Value} {ns : List Int}, IntsAre vs ns → ReadsAll h vs (ns.map PyData.int) []
  | _, _, .nil => .nil
  | _, _, .cons k t r => by
    have := ReadsAll.cons (Reads.int (h := h) k t) (reads_ints (h := h) r)
    simpa using this
theorem reads_tup {h : Heap} {a : Addr} {its : Array Value} {ns : List Int} (hl : IsTup h a its) (hi : IntsAre its.toList ns) : ∃ as, Reads h (.ref a) (.tuple (ns.map PyData.int)) as := by
  obtain ⟨o, ho, hc, n, hd⟩ := hl
  exact ⟨_, Reads.tuple ho hc hd (reads_ints hi)⟩
theorem ints_of_ats {N : Addr → Prop} {h : Heap} : ∀ {as : List At} {vs : List Value} {ns : List Int}, Paired (RA N h) as vs → atsInts as = some ns → IntsAre vs ns
  | [], _, _, .nil, e => by cases e; exact .nil
  | a :: as, _, ns, .cons r p, e => by
    refine bind_el e fun b hb e => ?_
    refine map_el e fun l hl e => ?_
    cases e
    cases At.int?_of hb
    obtain ⟨t, rfl⟩ := r
    exact .cons _ t (ints_of_ats p hl)
theorem depth_ints : ∀ ns : List Int, PyData.depthAll (ns.map PyData.int) ≤ 1
  | [] => by simp [PyData.depthAll]
  | n :: r => by
    have := depth_ints r
    simp only [List.map_cons, PyData.depthAll, PyData.depth]
    lia
theorem shaped_tup (ns : List Int) : PySem.SeqAt.shaped (.tuple (ns.map PyData.int)) = true := by
  have h1 := depth_ints ns
  have h2 : PyData.depth (.tuple (ns.map PyData.int)) ≤ 64 := by simp only [PyData.depth]; lia
  show (PyData.canLay0 (.tuple (ns.map PyData.int)) && decide (PyData.depth (.tuple (ns.map PyData.int)) ≤ 64)) = true
  rw [Bool.and_eq_true]
  exact ⟨by simp only [PyData.canLay0]; exact canLayAll0_ints ns, decide_eq_true h2⟩
theorem beq_dec {xs ys : List Int} : (xs == ys) = decide (xs = ys) := by by_cases h : xs = ys <;> simp [h]
theorem cmp_of {s : Shared} {N : Addr → Prop} {op : COp} {x y : LV} {a b : Value} {r : Bool} (hu : A.units + 64 < cLine) (ra : RV N s.heap x a) (rb : RV N s.heap y b) (hc : cmpV op x y = some r) {Q : Value → Shared → Prop} {E' : Value → Shared → Prop} (h : Q (.bool r) s) :
    wpAny (model X.x.prog X.x.w) A (compareOp op.op a b) Q E' s := by
  rcases alt_of hc with ⟨i, hi, hc⟩ | hc
  · obtain ⟨j, hj, e⟩ := map_of hc
    cases e
    cases LV.int?_of hi
    cases LV.int?_of hj
    obtain ⟨t, rfl⟩ := ra
    obtain ⟨u, rfl⟩ := rb
    exact COp.compare (x := X.x) h
  rcases alt_of hc with ⟨xs, hxs, hc⟩ | hc
  · obtain ⟨ys, hys, hd⟩ := bind_of hc
    rw [beq_dec] at hd
    cases LV.ints?_of hxs
    cases LV.ints?_of hys
    obtain ⟨a1, i1, rfl, _, l1, n1, _⟩ := ra
    obtain ⟨a2, i2, rfl, _, l2, n2, _⟩ := rb
    have l1' : s.heap.IsList a1 i1.toList.toArray := by rw [Array.toArray_toList]; exact l1
    have l2' : s.heap.IsList a2 i2.toList.toArray := by rw [Array.toArray_toList]; exact l2
    cases op <;> cases hd
    · exact eq_intsK l1' n1 l2' n2 hu h
    · exact ne_intsK l1' n1 l2' n2 hu h
  · obtain ⟨xs, hxs, hc⟩ := bind_of hc
    refine bind_el hc fun ys hys hc => ?_
    refine bind_el hc fun p hp hc => ?_
    refine bind_el hc fun q hq hd => ?_
    rw [beq_dec] at hd
    cases LV.tup?_of hxs
    cases LV.tup?_of hys
    obtain ⟨a1, i1, rfl, l1, n1⟩ := ra
    obtain ⟨a2, i2, rfl, l2, n2⟩ := rb
    obtain ⟨as, r1⟩ := reads_tup l1 (ints_of_ats n1 hp)
    obtain ⟨bs, r2⟩ := reads_tup l2 (ints_of_ats n2 hq)
    cases op <;> cases hd
    · exact eq_dataH_same r1 r2 (shaped_tup p) (shaped_tup q) hu (by simp only [PySem.SeqAt.noMix]; exact noMix_ints p q) (by simp only [PySem.Spec.same]; rw [same_ints]; exact h)
    · exact ne_dataH_same r1 r2 (shaped_tup p) (shaped_tup q) hu (by simp only [PySem.SeqAt.noMix]; exact noMix_ints p q) (by simp only [PySem.Spec.same]; rw [same_ints]; exact h)
theorem RV.any {N : Addr → Prop} {h : Heap} {v : LV} {y : Value} (r : RV N h v y) : RV (fun _ => False) h v y := r.weak fun _ _ q => q.elim
theorem g_cmp {op : COp} {a b : LE} (hu : A.units + 64 < cLine) (ga : GoodE X A cf a) (gb : GoodE X A cf b) : GoodE X A cf (.cmp op a b) ∧ GoodT X A cf (.cmp op a b) := by
  have key : ∀ (k : LC) (env : Env) (ρ : LLoc) (hs : Addr → Option Obj) (N₀ W : Addr → Prop) (ex : PySem.Expr) (v : LV), trL X.F k (.cmp op a b) ex = true → evL cf (.cmp op a b) ρ = some v → EnvL env k.vars → KOk k env → ρ.length = k.vars.length →
      ∃ el er p c, ex = .Compare el [op.op] [er] p ∧ plainL er = true ∧ v = .bool c ∧ ∀ (s : Shared) (Q : Value → Shared → Prop) (E' : Value → Shared → Prop), Rd X hs N₀ env k.vars ρ W s.heap → (∀ s', Kg s s' → Q (.bool c) s') →
        wpAny (model X.x.prog X.x.w) A (eval el env) (fun y s₁ => wpAny (model X.x.prog X.x.w) A (eval er env) (fun y₂ s₂ => wpAny (model X.x.prog X.x.w) A (compareOp op.op y y₂) Q E' s₂) E' s₁) E' s := by
    intro k env ρ hs N₀ W ex v ht he EL KO hl
    refine inv_trL_cmp ht fun _ _ _ _ hx₀ ht => ?_
    subst hx₀
    refine and_el ht fun ht hb => ?_
    refine and_el ht fun ht ha => ?_
    refine and_el ht fun ht hp => ?_
    cases beq_iff_eq.mp ht
    refine bind_el he fun x hx he => ?_
    refine bind_el he fun y hy he => ?_
    refine map_el he fun r hr e => ?_
    cases e
    exact ⟨_, _, _, r, rfl, hp, rfl, fun s Q E' R h => ga k env ρ hs N₀ W _ x ha hx EL KO hl s _ _ R fun ya s₁ ra ka => gb k env ρ hs N₀ W _ y hb hy EL KO hl s₁ _ _ (R.grow ka.grow) fun yb s₂ rb kb => cmp_of hu (ra.grow kb.grow).any rb.any hr (h s₂ (ka.trans kb))⟩
  constructor
  · intro k env ρ hs N₀ W ex v ht he EL KO hl s Q E' R h
    obtain ⟨el, er, p, c, rfl, hp, rfl, w⟩ := key k env ρ hs N₀ W ex v ht he EL KO hl
    exact wpAny_Compare1 (w s _ _ R fun s' k' => h _ s' rfl k') (plainL_marks hp op)
  · intro k env ρ hs N₀ W ex v c ht he hc EL KO hl s Q E' R h
    obtain ⟨el, er, p, c', rfl, hp, rfl, w⟩ := key k env ρ hs N₀ W ex v ht he EL KO hl
    cases hc
    exact wpAny_isTrue_Compare1 (w s _ _ R fun s' k' => wpAny_truthy_bool (h s' k')) (plainL_marks hp op)
end
end Mine

end
section
open PySem PySem.W PyProof.Rows
set_option maxRecDepth 100000
set_option maxHeartbeats 1000000
set_option linter.unusedSimpArgs false
set_option linter.unusedVariables false
set_option linter.unusedSectionVars false
namespace Mine
section
variable {X : LX} {A : Around} {cf : Nat → List LV → Option LV}
theorem and_raw {M : Model} {env : Env} {l r : PySem.Expr} {pos : Pos} {Q : Value → Shared → Prop} {E' : Value → Shared → Prop} {s : Shared}
    (h : wpAny M A (eval l env) (fun v s₁ => ∃ b, v = .bool b ∧ if b then wpAny M A (eval r env) Q E' s₁ else Q (.bool false) s₁) E' s) : wpAny M A (eval (.BoolOp .And [l, r] pos) env) Q E' s := by
  show wpAny M A (do let v ← eval l env; standAt pos; let t ← holding [v] (truthy v); match BoolOp.And, t with | .And, false | .Or, true => pure v | _, _ => eval r env) Q E' s
  refine wpAny_bind (wpAny_mono h (fun v s₁ h₁ => wpAny_bind (wpAny_standAt ?_)) fun _ _ x => x)
  obtain ⟨b, rfl, h₁⟩ := h₁
  refine wpAny_bind (wpAny_holding (wpAny_truthy_bool ?_))
  cases b
  · exact wpAny_pure h₁
  · exact h₁
theorem or_raw {M : Model} {env : Env} {l r : PySem.Expr} {pos : Pos} {Q : Value → Shared → Prop} {E' : Value → Shared → Prop} {s : Shared}
    (h : wpAny M A (eval l env) (fun v s₁ => ∃ b, v = .bool b ∧ if b then Q (.bool true) s₁ else wpAny M A (eval r env) Q E' s₁) E' s) : wpAny M A (eval (.BoolOp .Or [l, r] pos) env) Q E' s := by
  show wpAny M A (do let v ← eval l env; standAt pos; let t ← holding [v] (truthy v); match BoolOp.Or, t with | .And, false | .Or, true => pure v | _, _ => eval r env) Q E' s
  refine wpAny_bind (wpAny_mono h (fun v s₁ h₁ => wpAny_bind (wpAny_standAt ?_)) fun _ _ x => x)
  obtain ⟨b, rfl, h₁⟩ := h₁
  refine wpAny_bind (wpAny_holding (wpAny_truthy_bool ?_))
  cases b
  · exact h₁
  · exact wpAny_pure h₁
theorem all_And {M : Model} {env : Env} {l r : PySem.Expr} {Q : Bool → Shared → Prop} {E' : Value → Shared → Prop} {s : Shared}
    (h : wpAny M A (isTrue l env (eval l env)) (fun b s₁ => if b then wpAny M A (isTrue r env (eval r env)) Q E' s₁ else Q false s₁) E' s) : wpAny M A (allTrue .And [l, r] env) Q E' s := by
  refine wpAny_allTrue_And_cons (wpAny_mono h (fun b s₁ h₁ => ?_) fun _ _ x => x)
  cases b
  · exact h₁
  · refine wpAny_allTrue_And_cons (wpAny_mono h₁ (fun b s₂ h₂ => ?_) fun _ _ x => x)
    cases b
    · exact h₂
    · exact wpAny_allTrue_And_nil h₂
theorem all_Or {M : Model} {env : Env} {l r : PySem.Expr} {Q : Bool → Shared → Prop} {E' : Value → Shared → Prop} {s : Shared}
    (h : wpAny M A (isTrue l env (eval l env)) (fun b s₁ => if b then Q true s₁ else wpAny M A (isTrue r env (eval r env)) Q E' s₁) E' s) : wpAny M A (allTrue .Or [l, r] env) Q E' s := by
  refine wpAny_allTrue_Or_cons (wpAny_mono h (fun b s₁ h₁ => ?_) fun _ _ x => x)
  cases b
  · refine wpAny_allTrue_Or_cons (wpAny_mono h₁ (fun b s₂ h₂ => ?_) fun _ _ x => x)
    cases b
    · exact wpAny_allTrue_Or_nil h₂
    · exact h₂
  · exact h₁
theorem fl_true {N : Addr → Prop} {h : Heap} {v : LV} {y : Value} {b b' : Bool} (r : RV (fl b N) h v y) (hb : b' = true → b = true) : RV (fl b' N) h v y := r.weak fun _ _ q => ⟨hb q.1, q.2⟩
theorem g_and {a b : LE} (ga : GoodE X A cf a) (gb : GoodE X A cf b) (ta : GoodT X A cf a) (tb : GoodT X A cf b) : GoodE X A cf (.and a b) ∧ GoodT X A cf (.and a b) := by
  constructor
  · intro k env ρ hs N₀ W ex v ht he EL KO hl s Q E' R h
    refine inv_trL_and ht fun _ _ _ _ hx₀ ht => ?_
    subst hx₀
    refine and_el ht fun ht hb => ?_
    refine and_el ht fun ht ha => ?_
    refine and_el ht fun ht hs1 => ?_
    cases beq_iff_eq.mp ht
    refine bind_el he fun x hx he => ?_
    refine bind_el he fun q hq he => ?_
    cases LV.bool?_of hq
    refine and_raw (ga k env ρ hs N₀ W _ _ ha hx EL KO hl s _ _ R fun ya s₁ ra ka => ⟨q, ra, ?_⟩)
    cases q
    · cases he; exact h _ s₁ rfl ka
    · exact gb k env ρ hs N₀ W _ _ hb he EL KO hl s₁ _ _ (R.grow ka.grow) fun yb s₂ rb kb => h _ s₂ (fl_true rb fun _ => hs1) (ka.trans kb)
  · intro k env ρ hs N₀ W ex v c ht he hc EL KO hl s Q E' R h
    refine inv_trL_and ht fun _ _ _ _ hx₀ ht => ?_
    subst hx₀
    refine and_el ht fun ht hb => ?_
    refine and_el ht fun ht ha => ?_
    refine and_el ht fun ht hs1 => ?_
    cases beq_iff_eq.mp ht
    refine bind_el he fun x hx he => ?_
    refine bind_el he fun q hq he => ?_
    cases LV.bool?_of hq
    refine wpAny_isTrue_BoolOp (all_And (ta k env ρ hs N₀ W _ _ q ha hx rfl EL KO hl s _ _ R fun s₁ ka => ?_))
    cases q
    · cases he; cases hc; exact h s₁ ka
    · exact tb k env ρ hs N₀ W _ _ c hb he hc EL KO hl s₁ _ _ (R.grow ka.grow) fun s₂ kb => h s₂ (ka.trans kb)
theorem g_or {a b : LE} (ga : GoodE X A cf a) (gb : GoodE X A cf b) (ta : GoodT X A cf a) (tb : GoodT X A cf b) : GoodE X A cf (.or a b) ∧ GoodT X A cf (.or a b) := by
  constructor
  · intro k env ρ hs N₀ W ex v ht he EL KO hl s Q E' R h
    refine inv_trL_or ht fun _ _ _ _ hx₀ ht => ?_
    subst hx₀
    refine and_el ht fun ht hb => ?_
    refine and_el ht fun ht ha => ?_
    refine and_el ht fun ht hs1 => ?_
    cases beq_iff_eq.mp ht
    refine bind_el he fun x hx he => ?_
    refine bind_el he fun q hq he => ?_
    cases LV.bool?_of hq
    refine or_raw (ga k env ρ hs N₀ W _ _ ha hx EL KO hl s _ _ R fun ya s₁ ra ka => ⟨q, ra, ?_⟩)
    cases q
    · exact gb k env ρ hs N₀ W _ _ hb he EL KO hl s₁ _ _ (R.grow ka.grow) fun yb s₂ rb kb => h _ s₂ (fl_true rb fun _ => hs1) (ka.trans kb)
    · cases he; exact h _ s₁ rfl ka
  · intro k env ρ hs N₀ W ex v c ht he hc EL KO hl s Q E' R h
    refine inv_trL_or ht fun _ _ _ _ hx₀ ht => ?_
    subst hx₀
    refine and_el ht fun ht hb => ?_
    refine and_el ht fun ht ha => ?_
    refine and_el ht fun ht hs1 => ?_
    cases beq_iff_eq.mp ht
    refine bind_el he fun x hx he => ?_
    refine bind_el he fun q hq he => ?_
    cases LV.bool?_of hq
    refine wpAny_isTrue_BoolOp (all_Or (ta k env ρ hs N₀ W _ _ q ha hx rfl EL KO hl s _ _ R fun s₁ ka => ?_))
    cases q
    · exact tb k env ρ hs N₀ W _ _ c hb he hc EL KO hl s₁ _ _ (R.grow ka.grow) fun s₂ kb => h s₂ (ka.trans kb)
    · cases he; cases hc; exact h s₁ ka
theorem g_not {a : LE} (ga : GoodE X A cf a) (ta : GoodT X A cf a) : GoodE X A cf (.not a) ∧ GoodT X A cf (.not a) := by
  constructor
  · intro k env ρ hs N₀ W ex v ht he EL KO hl s Q E' R h
    refine inv_trL_not ht fun _ _ _ hx₀ ht => ?_
    subst hx₀
    refine and_el ht fun ht ha => ?_
    cases beq_iff_eq.mp ht
    refine bind_el he fun x hx he => ?_
    refine map_el he fun b hb e => ?_
    cases e
    exact UnaryOp_ (ga k env ρ hs N₀ W _ _ ha hx EL KO hl s _ _ R fun ya s₁ ra ka => not_of (truthyL_of ra hb fun s₂ kb => h _ s₂ rfl (ka.trans kb)))
  · intro k env ρ hs N₀ W ex v c ht he hc EL KO hl s Q E' R h
    refine inv_trL_not ht fun _ _ _ hx₀ ht => ?_
    subst hx₀
    refine and_el ht fun ht ha => ?_
    cases beq_iff_eq.mp ht
    refine bind_el he fun x hx he => ?_
    refine map_el he fun b hb e => ?_
    cases e
    cases hc
    rw [arm_isTrue_UnaryOp]
    exact wpAny_bind (ta k env ρ hs N₀ W _ _ b ha hx hb EL KO hl s _ _ R fun s₁ ka => wpAny_pure (h s₁ ka))
theorem pick_of {α : Type} {l : List α} {k : Int} {x : α} (h : pick l k = some x) : (0 ≤ k ∧ l[k.toNat]? = some x ∧ k.toNat < l.length) ∨ (k < 0 ∧ -(l.length : Int) ≤ k ∧ l[(k + l.length).toNat]? = some x) := by
  unfold pick at h
  split at h
  · rename_i q; exact .inl ⟨q, h, (List.getElem?_eq_some_iff.mp h).1⟩
  · rename_i q
    split at h
    · rename_i q'; exact .inr ⟨by lia, by lia, h⟩
    · cases h
theorem item_any {s : Shared} {a : Addr} {items : Array Value} {k : Int} {u : Tok} {value e : PySem.Expr} {x : Value} (hl : s.heap.IsList a items) (hz : items.size ≤ lim) (hk : pick items.toList k = some x) (he : plainL e = true) {Q : Value → Shared → Prop} {E' : Value → Shared → Prop}
    (hq : Q x s) : wpAny (model X.x.prog X.x.w) A (subscriptTail value e (.ref a) (.int k u)) Q E' s := by
  have h63 := lim_63 hz
  refine tail_any hl.typeIs slot_list_getitem.lookup ?_ (plainL_sub he _ _)
  rcases pick_of hk with ⟨h0, hx, hlt⟩ | ⟨h0, h1, hx⟩
  · rw [Array.length_toList] at hlt
    exact wpAny_getItem_list hl h0 (by lia) (by rw [← Array.getElem?_toList]; exact hx) hq
  · rw [Array.length_toList] at h1 hx
    exact wpAny_getItem_list_neg hl h0 h1 (by lia) (by rw [← Array.getElem?_toList]; exact hx) hq
theorem pick_map {α β : Type} {F : α → β → Prop} {l₁ : List α} {l₂ : List β} (p : Paired F l₁ l₂) {k : Int} {x : α} (h : pick l₁ k = some x) : ∃ y, pick l₂ k = some y ∧ F x y := by
  have gt : ∀ {l₁ : List α} {l₂ : List β}, Paired F l₁ l₂ → ∀ (i : Nat) (x : α), l₁[i]? = some x → ∃ y, l₂[i]? = some y ∧ F x y := by
    intro l₁ l₂ p
    induction p with
    | nil => intro i x h; simp at h
    | cons hab t ih =>
      intro i x h
      cases i with
      | zero => simp at h; subst h; exact ⟨_, rfl, hab⟩
      | succ i => simpa using ih i x (by simpa using h)
  have hlen := p.length
  rcases pick_of h with ⟨h0, hx, hlt⟩ | ⟨h0, h1, hx⟩
  · obtain ⟨y, hy, r⟩ := gt p _ _ hx
    exact ⟨y, by unfold pick; rw [if_pos h0]; exact hy, r⟩
  · obtain ⟨y, hy, r⟩ := gt p _ _ hx
    refine ⟨y, ?_, r⟩
    unfold pick
    rw [if_neg (by lia), if_pos (by lia), ← hlen]; exact hy
theorem ints_paired : ∀ {vs : List Value} {ns : List Int}, IntsAre vs ns → Paired (fun n v => ∃ t, v = Value.int n t) ns vs
  | _, _, .nil => .nil
  | _, _, .cons k t r => .cons ⟨t, rfl⟩ (ints_paired r)
theorem idx_of {s : Shared} {N : Addr → Prop} {x y r : LV} {a b : Value} {value e : PySem.Expr} (ra : RV N s.heap x a) (rb : RV (fun _ => False) s.heap y b) (hr : idxV x y = some r) (he : plainL e = true) {Q : Value → Shared → Prop} {E' : Value → Shared → Prop}
    (h : ∀ z, RV N s.heap r z → Q z s) : wpAny (model X.x.prog X.x.w) A (subscriptTail value e a b) Q E' s := by
  refine bind_el hr fun k hk hr => ?_
  have hk := LV.int?_of hk
  obtain ⟨t, rfl⟩ : ∃ t, b = .int k t := by rw [hk] at rb; exact rb
  have key : ∀ {α : Type} {F : α → Value → Prop} {xs : List α} {c : Addr} {its : Array Value}, s.heap.IsList c its → Paired F xs its.toList → xs.length ≤ lim → ∀ {n : α}, pick xs k = some n → (∀ z, F n z → Q z s) → wpAny (model X.x.prog X.x.w) A (subscriptTail value e (.ref c) (.int k t)) Q E' s := by
    intro α F xs c its l p z n hn h'
    obtain ⟨w, hw, q⟩ := pick_map p hn
    exact item_any l (by rw [← Array.length_toList, ← p.length]; exact z) hw he (h' _ q)
  rcases alt_of hr with ⟨xs, hx, hr⟩ | hr
  · obtain ⟨n, hn, e'⟩ := map_of hr
    cases e'
    cases LV.ints?_of hx
    obtain ⟨c, its, rfl, _, l, i, z⟩ := ra
    exact key l (ints_paired i) z hn h
  rcases alt_of hr with ⟨xs, hx, hr⟩ | hr
  · obtain ⟨n, hn, e'⟩ := map_of hr
    cases e'
    cases LV.lists?_of hx
    obtain ⟨c, its, rfl, _, l, i, z⟩ := ra
    exact key l i z hn h
  · obtain ⟨xs, hx, hr⟩ := bind_of hr
    obtain ⟨n, hn, e'⟩ := map_of hr
    cases e'
    cases LV.rows?_of hx
    obtain ⟨c, its, rfl, _, l, i, z⟩ := ra
    exact key l i z hn h
theorem own_idx {w : Nat} {ρ : LLoc} {x y r : LV} (hx : evL cf (.own w) ρ = some x) (hr : idxV x y = some r) : ∃ n, r = .int n := by
  refine bind_el hx fun u _ hx => ?_
  refine map_el hx fun xs _ e => ?_
  cases e
  refine bind_el hr fun k _ hr => ?_
  refine map_el hr fun n _ e => ?_
  exact ⟨n, e.symm⟩
theorem g_idx {a i : LE} (ga : GoodE X A cf a) (gi : GoodE X A cf i) : GoodE X A cf (.idx a i) := by
  intro k env ρ hs N₀ W ex v ht he EL KO hl s Q E' R h
  refine inv_trL_idx ht fun _ _ _ hx₀ ht => ?_
  subst hx₀
  refine and_el ht fun ht hi => ?_
  refine and_el ht fun hp ha => ?_
  refine bind_el he fun x hx hv => ?_
  refine bind_el hv fun y hy hv => ?_
  clear he
  refine Subscript_ (ga k env ρ hs N₀ W _ x ha hx EL KO hl s _ _ R fun ya s₁ ra ka => gi k env ρ hs N₀ W _ y hi hy EL KO hl s₁ _ _ (R.grow ka.grow) fun yb s₂ rb kb => ?_)
  refine idx_of (ra.grow kb.grow) rb.any hv hp fun z rz => h z s₂ ?_ (ka.trans kb)
  cases hst : stb a with
  | true => rw [hst] at rz; exact fl_true rz fun _ => rfl
  | false =>
    cases a with
    | own w =>
      obtain ⟨n, rfl⟩ := own_idx hx hv
      exact rz
    | _ => exact fl_true rz fun q => q
end
end Mine

end
section
open PySem PySem.W PyProof.Rows
set_option maxRecDepth 100000
set_option maxHeartbeats 1000000
set_option linter.unusedSimpArgs false
set_option linter.unusedVariables false
set_option linter.unusedSectionVars false
namespace Mine
section
variable {X : LX} {A : Around} {cf : Nat → List LV → Option LV}
end
end Mine

end
section
open PySem PySem.W PyProof.Rows
set_option maxRecDepth 100000
set_option maxHeartbeats 1000000
set_option linter.unusedSimpArgs false
set_option linter.unusedVariables false
set_option linter.unusedSectionVars false
namespace Mine
section
variable {X : LX} {A : Around} {cf : Nat → List LV → Option LV}
theorem part_of {s : Shared} {N : Addr → Prop} {v : LV} {y : Value} {p : Option Int} (r : RV N s.heap v y) (h : part v = some p) : IsPart y p := by
  cases v with
  | «at» a =>
    cases a <;> cases h
    · obtain ⟨t, rfl⟩ := r; exact .int _ _
    · obtain rfl := r; exact .none
  | _ => cases h
theorem ints_take : ∀ {vs : List Value} {ns : List Int} (_ : IntsAre vs ns) (n : Nat), IntsAre (vs.take n) (ns.take n)
  | _, _, _, 0 => .nil
  | _, _, .nil, _ + 1 => .nil
  | _, _, .cons k t r, n + 1 => .cons k t (ints_take r n)
theorem ints_drop : ∀ {vs : List Value} {ns : List Int} (_ : IntsAre vs ns) (n : Nat), IntsAre (vs.drop n) (ns.drop n)
  | _, _, h, 0 => h
  | _, _, .nil, _ + 1 => .nil
  | _, _, .cons k t r, n + 1 => ints_drop r n
theorem ints_cut {its : Array Value} {xs : List Int} (h : IntsAre its.toList xs) (lo hi : Option Int) : IntsAre (slicePick its lo hi none).toList (cutI xs lo hi) := by
  rw [slicePick_plain]
  unfold cutI
  rw [ints_len h]
  exact ints_take (ints_drop h _) _
theorem cut_len (xs : List Int) (lo hi : Option Int) : (cutI xs lo hi).length ≤ xs.length := by
  unfold cutI
  rw [List.length_take, List.length_drop]
  lia
theorem opt_good {e : LE} (g : GoodE X A cf e) (k : LC) (env : Env) (ρ : LLoc) (hs : Addr → Option Obj) (N₀ W : Addr → Prop) (o : Option PySem.Expr) (v : LV) (ht : (match o with | Option.none => isNoneE e | some x => trL X.F k e x) = true) (he : evL cf e ρ = some v) (EL : EnvL env k.vars) (KO : KOk k env) (hl : ρ.length = k.vars.length)
    (s : Shared) (Q : Value → Shared → Prop) (E' : Value → Shared → Prop) (R : Rd X hs N₀ env k.vars ρ W s.heap) (h : ∀ y s', RV (fun _ => False) s'.heap v y → Kg s s' → Q y s') : wpAny (model X.x.prog X.x.w) A (evalPart o env) Q E' s := by
  cases o with
  | none =>
    have : e = .none := by cases e <;> first | rfl | cases ht
    subst this
    cases he
    rw [evalPart_none]
    exact wpAny_pure (h _ s rfl .refl)
  | some x =>
    rw [evalPart_some]
    exact g k env ρ hs N₀ W x v ht he EL KO hl s Q E' R fun y s' r k' => h y s' r.any k'
theorem g_slc {a lo hi : LE} (ga : GoodE X A cf a) (gl : GoodE X A cf lo) (gh : GoodE X A cf hi) : GoodF X A cf (.slc a lo hi) := by
  intro k env ρ hs N₀ W ex v ht he EL KO hl s Q E' R h
  refine inv_trL_slc ht fun _ _ _ _ _ _ hx₀ ht => ?_
  subst hx₀
  refine and_el ht fun ht h2 => ?_
  refine and_el ht fun ht h1 => ?_
  refine and_el ht fun ht ha => ?_
  cases Option.isNone_iff_eq_none.mp ht
  refine bind_el he fun x hx he => ?_
  refine bind_el he fun l hlo he => ?_
  refine bind_el he fun u hup he => ?_
  refine bind_el he fun xs hxs he => ?_
  refine bind_el he fun p1 hp1 he => ?_
  refine map_el he fun p2 hp2 e => ?_
  cases e
  cases LV.ints?_of hxs
  refine Subscript_ (ga k env ρ hs N₀ W _ _ ha hx EL KO hl s _ _ R fun ya s₁ ra ka => wpAny_Slice (opt_good gl k env ρ hs N₀ W _ l h1 hlo EL KO hl s₁ _ _ (R.grow ka.grow) fun yl s₂ rl kl =>
    opt_good gh k env ρ hs N₀ W _ u h2 hup EL KO hl s₂ _ _ (R.grow (ka.trans kl).grow) fun yu s₃ ru ku => ?_))
  rw [evalPart_none]
  refine wpAny_pure ?_
  obtain ⟨b, its, rfl, _, lb, ib, zb⟩ := (ra.grow kl.grow).grow ku.grow
  have kk := ((ka.trans kl).trans ku).trans (Kg.push' (s := s₃) (o := { cls := .type "slice", data := .fields #[yl, yu, .none] }))
  have lp := lb.push { cls := .type "slice", data := .fields #[yl, yu, .none] }
  refine tail_any lp.typeIs slot_list_getitem.lookup (wpAny_getItem_list_slice lp (Heap.IsSliceOf.new ..) (part_of (rl.grow ku.grow) hp1) (part_of ru hp2) .none (by simp) ?_ (by rw [ints_len ib]; exact Nat.le_trans zb lim_size)) (ops := [.ref s₃.heap.objs.size, .ref b]) rfl
  have e : slicePick its p1 p2 none = (slicePick its p1 p2 none).toList.toArray := by rw [Array.toArray_toList]
  rw [e]
  exact h _ _ (fresh_ints (R.grow kk.grow).lists (ints_cut ib p1 p2) (Nat.le_trans (cut_len _ _ _) zb)) (kk.trans .push') (fun a q => by cases q; exact ⟨kk.fresh, _, Heap.get?_push_size _ rfl, rfl⟩)
theorem blt1 (OK : LOk X) {k : LC} {env : Env} (EL : EnvL env k.vars) (KO : KOk k env) {hs : Addr → Option Obj} {N₀ W : Addr → Prop} {ρ : LLoc} {s : Shared} (R : Rd X hs N₀ env k.vars ρ W s.heap) {n : Str} {nm : String} (hb : (n, .builtin nm) ∈ bltT) (hd : (n == ("__debug__" : Str)) = false) (hg : k.isGlob n = true) {q : Pos} {e : PySem.Expr} {p : Pos} (hp : plainL e = true)
    {Q : Value → Shared → Prop} {E' : Value → Shared → Prop} (h : wpAny (model X.x.prog X.x.w) A (eval e env) (fun y s₁ => wpAny (model X.x.prog X.x.w) A (call (.builtin nm) [y]) Q E' s₁) E' s) : wpAny (model X.x.prog X.x.w) A (eval (.Call (.Name n q) [e] [] p) env) Q E' s := by
  obtain ⟨b1, b2⟩ := OK.blt n _ hb
  exact wpAny_Call_NameR (load_builtin EL (OK.g.keeps R.base) (OK.b.keeps R.base) (KO.g _ (isGlob_of hg)) b1 b2 hd (PyProof.Rows.callWith_builtin1 (args_cons (wpAny_mono h (fun y s₁ h₁ => args_nil h₁) fun _ _ x => x) (plainL_star hp env [])) (plainL_star hp env []) rfl))
theorem g_len (OK : LOk X) {a : LE} (ga : GoodE X A cf a) : GoodE X A cf (.len a) := by
  intro k env ρ hs N₀ W ex v ht he EL KO hl s Q E' R h
  refine inv_trL_len ht fun _ _ _ _ hx₀ ht => ?_
  subst hx₀
  refine and_el ht fun ht ha => ?_
  refine and_el ht fun ht hp => ?_
  refine and_el ht fun ht hg => ?_
  cases beq_iff_eq.mp ht
  refine bind_el he fun x hx he => ?_
  refine map_el he fun xs hxs e => ?_
  cases e
  cases LV.ints?_of hxs
  refine blt1 OK EL KO R (.head _) (by decide) hg hp (ga k env ρ hs N₀ W _ _ ha hx EL KO hl s _ _ R fun ya s₁ ra ka => ?_)
  obtain ⟨b, its, rfl, _, lb, ib, zb⟩ := ra
  have hz := ints_len ib
  exact len_list lb (lim_63 (by rw [hz]; exact zb)) (by rw [hz]; exact h _ _ ⟨_, rfl⟩ (ka.trans .tok))
theorem mapO_paired {α β γ : Type} {F : α → γ → Prop} {G : β → γ → Prop} {f : α → Option β} (hf : ∀ a b c, f a = some b → F a c → G b c) {l : List α} {r : List β} {cs : List γ} (h : mapO f l = some r) (p : Paired F l cs) : Paired G r cs := by
  induction p generalizing r with
  | nil => cases h; exact .nil
  | cons q _ ih =>
    refine bind_el h fun b hb h => ?_
    refine map_el h fun rs hr e => ?_
    cases e
    exact .cons (hf _ _ _ hb q) (ih hr)
theorem mapO_len {α β : Type} {f : α → Option β} : ∀ {l : List α} {r : List β}, mapO f l = some r → r.length = l.length
  | [], _, h => by cases h; rfl
  | a :: l, r, h => by
    refine bind_el h fun b hb h => ?_
    refine map_el h fun rs hr e => ?_
    cases e
    exact congrArg (· + 1) (mapO_len hr)
theorem paired_ints {N : Addr → Prop} {h : Heap} {xs : List Int} {vs : List Value} (p : Paired (fun n v => RA N h (.int n) v) xs vs) : IntsAre vs xs := by
  induction p with
  | nil => exact .nil
  | cons r _ ih => obtain ⟨t, rfl⟩ := r; exact .cons _ t ih
theorem g_disp {es : LEs} (ge : GoodEs X A cf es) : GoodF X A cf (.disp es) := by
  intro k env ρ hs N₀ W ex v ht he EL KO hl s Q E' R h
  refine inv_trL_disp ht fun _ _ hx₀ ht => ?_
  subst hx₀
  refine bind_el he fun vs hv he => ?_
  obtain ⟨hz, he⟩ := ite_of he
  refine wpAny_List (ge k env ρ hs N₀ W _ vs _ ht hv EL KO hl s _ _ R fun ys s' p k' => ?_)
  have hlen : ys.length = vs.length := p.length.symm
  refine ⟨by rw [hlen]; exact Nat.le_trans hz lim_size, ?_⟩
  have L' := (R.grow k'.grow).lists
  have gr : Grow s'.heap (s'.heap.push { cls := .type "list", data := .seq ys.toArray }) := fun _ _ e => Heap.get?_push_of_some _ e
  have nf : ¬ fl (stb.stbs es) (nn N₀ W) s'.heap.objs.size := fun q => fresh_notin L' fresh_size q.2
  have up := k'.trans (Kg.push' (s := s') (o := { cls := .type "list", data := .seq ys.toArray }))
  have nw : NewP s.heap (s'.heap.push { cls := .type "list", data := .seq ys.toArray }) (.ref s'.heap.objs.size) := fun a q => by cases q; exact ⟨k'.fresh, _, Heap.get?_push_size _ rfl, rfl⟩
  have ls : (s'.heap.push { cls := .type "list", data := .seq ys.toArray }).IsList s'.heap.objs.size ys.toArray := ⟨_, Heap.get?_push_size _ rfl, rfl, _, rfl⟩
  rcases alt_of he with ⟨xs, hx, e⟩ | he
  · cases e
    exact h _ _ (fresh_ints L' (paired_ints (N := fun _ => False) (h := s'.heap) (mapO_paired (fun a b c hf q => by cases LV.int?_of hf; exact q) hx p)) (by rw [mapO_len hx]; exact hz)) up nw
  rcases alt_of he with ⟨xs, hx, e⟩ | he
  · cases e
    exact h _ _ ⟨_, ys.toArray, rfl, nf, ls, mapO_paired (fun a b c hf q => by cases LV.tup?_of hf; exact RT.grow q gr) hx p, by rw [mapO_len hx]; exact hz⟩ up nw
  · obtain ⟨xs, hx, e⟩ := map_of he
    cases e
    exact h _ _ ⟨_, ys.toArray, rfl, nf, ls, mapO_paired (fun a b c hf q => by cases LV.ints?_of hf; exact RA.grow q gr) hx p, by rw [mapO_len hx]; exact hz⟩ up nw
theorem g_tup {es : LEs} (ge : GoodEs X A cf es) : GoodE X A cf (.tup es) := by
  intro k env ρ hs N₀ W ex v ht he EL KO hl s Q E' R h
  refine inv_trL_tup ht fun _ _ _ hx₀ ht => ?_
  subst hx₀
  refine bind_el he fun vs hv he => ?_
  obtain ⟨hz, he⟩ := ite_of he
  refine map_el he fun xs hx e => ?_
  cases e
  refine wpAny_Tuple (ge k env ρ hs N₀ W _ vs _ ht hv EL KO hl s _ _ R fun ys s' p k' => ?_)
  have hlen : ys.length = vs.length := p.length.symm
  refine ⟨by rw [hlen]; exact Nat.le_trans hz lim_size, ?_⟩
  have gr : Grow s'.heap (s'.heap.push { cls := .type "tuple", data := .seq ys.toArray }) := fun _ _ e => Heap.get?_push_of_some _ e
  exact h _ _ ⟨_, ys.toArray, rfl, ⟨_, Heap.get?_push_size _ rfl, rfl, _, rfl⟩, mapO_paired (fun a b c hf q => by cases LV.at?_of hf; exact RA.grow q gr) hx p⟩ (k'.trans .push')
theorem M.get_mem (σ : M) (xs : List Int) (f : Fld) : ({ σ with mem := xs } : M).get f = σ.get f := by cases f <;> rfl
theorem Mr.apart {x : Cx} {σ : M} {h : Heap} (m : Mr x σ h) : x.D ≠ x.L := by
  obtain ⟨mm, n, _⟩ := m.ns
  obtain ⟨o, es, ep, e, d⟩ := ns_kind n.ns
  obtain ⟨its, ⟨o2, k2, e2, c2, _, d2⟩, _⟩ := m.mem
  intro q
  rw [q, e2] at e; cases e; rw [d2] at d; cases d
theorem g_attr (OK : LOk X) (v : Nat) (f : Fld) : GoodE X A cf (.attr v f) := by
  intro k env ρ hs N₀ W ex u ht he EL KO hl s Q E' R h
  refine inv_trL_attr ht fun _ _ _ _ hx₀ ht => ?_
  subst hx₀
  refine and_el ht fun hv ht => ?_
  cases beq_iff_eq.mp ht
  refine bind_el he fun w hw he => ?_
  obtain ⟨⟨σ, mv⟩, hp, he⟩ := bind_of he
  refine map_el he fun i hi e => ?_
  cases e
  cases LV.mpu?_of hp
  obtain ⟨I, D, L, xs, nm, a, m⟩ := R.mach _ _ _ _ (isVarL_of hv) hw
  have hg' : ({ σ with mem := xs } : M).get f = .int i := (M.get_mem σ xs f).trans (V.int?_of hi)
  refine Attribute_Name_ (load_at EL (isVarL_of hv) a (get_fld (x := X.at I D L) (OK.ok I D L m.d0 m.l0 m.mr.apart) m.mr f (hg' ▸ fun q => nomatch q) fun y r => h y _ ?_ .tok))
  rw [hg'] at r
  exact r
theorem g_call (OK : LOk X) (hcf : CallLOk X A cf) {f : Nat} {es : LEs} (ge : GoodEs X A cf es) : GoodE X A cf (.call f es) := by
  intro k env ρ hs N₀ W ex v ht he EL KO hl s Q E' R h
  refine inv_trL_call ht fun _ _ l _ hx₀ ht => ?_
  subst hx₀
  refine and_el ht fun ht hes => ?_
  refine and_el ht fun ht hst => ?_
  refine and_el ht fun ht hne => ?_
  refine and_el ht fun hg hf => ?_
  refine bind_el he fun vs hv he => ?_
  obtain ⟨fd, hF, hmg, hdb, ⟨o, fdt, ho, hd⟩, H⟩ := hcf f vs v he
  rw [hF] at hf
  obtain rfl := beq_iff_eq.mp hf
  refine wpAny_Call_NameR (load_global EL (OK.g.keeps R.base) (KO.g _ (isGlob_of hg)) hmg hdb ?_)
  cases l with
  | nil => cases hne
  | cons e0 l =>
    have hpl : plainL e0 = true := by
      cases es
      · cases hes
      · exact (Bool.and_eq_true_iff.mp (Bool.and_eq_true_iff.mp hes).1).1
    refine callWith_def hd (ge k env ρ hs N₀ W _ vs _ hes hv EL KO hl s _ _ R fun ys s₁ p k₁ => ?_) (plainL_star hpl env l)
    have R₁ := R.grow k₁.grow
    exact ⟨R₁.base _ _ ho, wpAny_call (H s₁ (nn N₀ W) ys _ R₁.base R₁.lists (p.mono fun _ _ q => q.unfl hst) fun y s₂ r₂ k₂ => h y s₂ r₂.tofl (k₁.trans k₂))⟩
end
end Mine

end
section
open PySem PySem.W PyProof.Rows
set_option maxRecDepth 100000
set_option maxHeartbeats 1000000
set_option linter.unusedSimpArgs false
set_option linter.unusedVariables false
set_option linter.unusedSectionVars false
namespace Mine
section
variable {X : LX} {A : Around} {cf : Nat → List LV → Option LV}
end
end Mine

end
section
open PySem PySem.W PyProof.Rows
set_option maxRecDepth 100000
set_option maxHeartbeats 1000000
set_option linter.unusedSimpArgs false
set_option linter.unusedVariables false
namespace Mine
theorem insS_perm {x : Int} : ∀ {l : List Int}, (insS x l).Perm (x :: l)
  | [] => .refl _
  | y :: r => by
    show (cond (decide (x ≤ y)) (x :: y :: r) (y :: insS x r)).Perm _
    cases decide (x ≤ y)
    · exact ((insS_perm (l := r)).cons y).trans (.swap x y r)
    · exact .refl _
theorem sortS_perm : ∀ {l : List Int}, (sortS l).Perm l
  | [] => .refl _
  | x :: r => insS_perm.trans (sortS_perm.cons x)
theorem insS_le {x : Int} : ∀ {l : List Int}, l.Pairwise (· ≤ ·) → (insS x l).Pairwise (· ≤ ·)
  | [], _ => .cons (fun _ h => nomatch h) .nil
  | y :: r, h => by
    obtain ⟨h1, h2⟩ := List.pairwise_cons.mp h
    show (cond (decide (x ≤ y)) (x :: y :: r) (y :: insS x r)).Pairwise _
    by_cases q : x ≤ y
    · rw [decide_eq_true q]
      exact .cons (fun z hz => by
        rcases List.mem_cons.mp hz with rfl | hz
        · exact q
        · exact Int.le_trans q (h1 z hz)) h
    · rw [decide_eq_false q]
      refine .cons (fun z hz => ?_) (insS_le h2)
      rcases List.mem_cons.mp (insS_perm.mem_iff.mp hz) with rfl | hz
      · lia
      · exact h1 z hz
theorem sortS_le : ∀ {l : List Int}, (sortS l).Pairwise (· ≤ ·)
  | [] => .nil
  | x :: r => insS_le sortS_le
theorem sorted_unique : ∀ {l m : List Int}, l.Perm m → l.Pairwise (· ≤ ·) → m.Pairwise (· ≤ ·) → l = m
  | [], m, p, _, _ => (List.nil_perm.mp p).symm
  | x :: l, [], p, _, _ => nomatch List.perm_nil.mp p
  | x :: l, y :: m, p, h, k => by
    obtain ⟨h1, h2⟩ := List.pairwise_cons.mp h
    obtain ⟨k1, k2⟩ := List.pairwise_cons.mp k
    have e : x = y := by
      have a : y ≤ x := by
        rcases List.mem_cons.mp (p.mem_iff.mp List.mem_cons_self) with e | e
        · exact Int.le_of_eq e.symm
        · exact k1 x e
      have b : x ≤ y := by
        rcases List.mem_cons.mp (p.mem_iff.mpr List.mem_cons_self) with e | e
        · exact Int.le_of_eq e.symm
        · exact h1 y e
      exact Int.le_antisymm b a
    subst e
    rw [sorted_unique (List.Perm.cons_inv p) h2 k2]
section
variable {X : LX} {A : Around} {cf : Nat → List LV → Option LV}
theorem g_sorted (OK : LOk X) {a : LE} (ga : GoodE X A cf a) : GoodE X A cf (.sorted a) := by
  intro k env ρ hs N₀ W ex v ht he EL KO hl s Q E' R h
  refine inv_trL_sorted ht fun _ _ _ _ hx₀ ht => ?_
  subst hx₀
  refine and_el ht fun ht ha => ?_
  refine and_el ht fun ht hp => ?_
  refine and_el ht fun ht hg => ?_
  cases beq_iff_eq.mp ht
  refine bind_el he fun x hx he => ?_
  refine bind_el he fun xs hxs he => ?_
  obtain ⟨hz, e⟩ := cond_of he
  cases e
  cases LV.ints?_of hxs
  have hz := Nat.le_of_ble_eq_true hz
  refine blt1 OK EL KO R (.tail _ (.tail _ (.tail _ (.tail _ (.tail _ (.head _)))))) (by decide) hg hp (ga k env ρ hs N₀ W _ _ ha hx EL KO hl s _ _ R fun ya s₁ ra ka => ?_)
  obtain ⟨b, its, rfl, _, lb, ib, zb⟩ := ra
  have e : its = its.toList.toArray := by rw [Array.toArray_toList]
  rw [e] at lb
  refine sorted_ints lb ib (by rw [ib.length]; exact hz) fun out ns' a1 a2 a3 => ?_
  obtain ⟨n, hn⟩ := sortedAll_at s₁.heap its.toList out
  have kk : Kg s₁ { s₁ with heap := sortedAll s₁.heap its.toList out } := ⟨_, s₁.toks, rfl, fun _ _ q => sortedAll_old q⟩
  have L := (R.grow ka.grow).lists
  have fr : s₁.heap.get? (s₁.heap.objs.size + 1) = none := by
    cases q : s₁.heap.get? (s₁.heap.objs.size + 1) with
    | none => rfl
    | some o => exact absurd (Heap.lt_size q) (Nat.not_lt.mpr (Nat.le_succ _))
  have es : ns' = sortS xs := sorted_unique (a2.trans sortS_perm.symm) a3 sortS_le
  subst es
  exact h _ _ ⟨_, out, rfl, fun q => fresh_notin L fr q.2, ⟨_, hn, rfl, n, rfl⟩, a1, by rw [a2.length_eq]; exact zb⟩ (ka.trans kk)
end
end Mine

end
section
open PySem PySem.W PyProof.Rows
set_option maxRecDepth 100000
set_option maxHeartbeats 1000000
set_option linter.unusedSimpArgs false
set_option linter.unusedVariables false
set_option linter.unusedSectionVars false
namespace Mine
section
variable {X : LX} {A : Around} {cf : Nat → List LV → Option LV}
theorem go_range {s : Shared} {I : Addr} {x l c : Int} {T : Addr} {elts : List PySem.Expr} {j : Nat} {pos : Pos} {Q : Unit → Shared → Prop} {E : Value → Shared → Prop} (hit : IsRangeIter s.heap I x l c) (hQ : Q () s) :
    wpAny (model X.x.prog X.x.w) A (letOwnedTupleGo (.Tuple elts j pos) (.ref I) (.ref T)) Q E s := by
  unfold letOwnedTupleGo
  refine wpAny_bind (wpAny_load hit ?_)
  show wpAny _ A (if (["enumerate", "zip", "dict_itemiterator", "dict_reverseitemiterator", "odict_iterator", "itertools.zip_longest", "itertools.pairwise"].contains "range_iterator" && _ == some (rawInt T)) = true then _ else _) Q E s
  rw [if_neg (by
    intro h
    rw [show (["enumerate", "zip", "dict_itemiterator", "dict_reverseitemiterator", "odict_iterator", "itertools.zip_longest", "itertools.pairwise"].contains "range_iterator") = false from by decide, Bool.false_and] at h
    cases h)]
  exact wpAny_pure hQ
theorem paired_at {α β : Type} {F : α → β → Prop} {l₁ : List α} {l₂ : List β} (p : Paired F l₁ l₂) : ∀ (i : Nat) (y : β), l₂[i]? = some y → ∃ x, l₁[i]? = some x ∧ F x y := by
  induction p with
  | nil => intro i y h; cases h
  | cons r _ ih =>
    intro i y h
    cases i with
    | zero => cases h; exact ⟨_, rfl, r⟩
    | succ i => exact ih i y h
theorem src_list {s s₁ : Shared} {N₀ W : Addr → Prop} {a : Addr} {its : Array Value} {items : List LV} (hh : A.handled = none) (x : Lists (nn N₀ W) s.heap) (k : Kg s s₁) (na : ¬ nn N₀ W a) (hl : s₁.heap.IsList a its) (p : Paired (RV (nn N₀ W) s₁.heap) items its.toList) (hz : items.length ≤ lim) :
    SrcIt X A N₀ W s items (.ref s₁.heap.objs.size) { s₁ with heap := s₁.heap.push { cls := .type "list_iterator", data := .fields #[.ref a, .int 0 0] } } := by
  have hlt : a < s₁.heap.objs.size := by obtain ⟨o, e, _⟩ := hl; exact Heap.lt_size e
  have gr : Grow s₁.heap (s₁.heap.push { cls := .type "list_iterator", data := .fields #[.ref a, .int 0 0] }) := fun _ _ e => Heap.get?_push_of_some _ e
  have hsz : its.size = items.length := by rw [p.length, Array.length_toList]
  have W0 := Walks.list (prog := X.x.prog) (w := X.x.w) hh s₁.heap.objs.size a (Nat.ne_of_lt hlt) its
  rw [hsz] at W0
  refine ⟨_, _, _, _, s₁.heap, rfl, hz, W0, ⟨⟨_, Heap.get?_push_size _ rfl, rfl, rfl⟩, hl.push _⟩, fresh_size, k.grow, gr, k.trans .push', ⟨_, Heap.get?_push_size _ rfl⟩, ?_, ?_, ?_, ?_, ?_⟩
  · intro b hb
    rcases List.mem_cons.mp hb with rfl | hb
    · exact .inl rfl
    · rw [List.mem_singleton.mp hb]
      obtain ⟨o, e, st, _⟩ := list_store hl
      exact .inr ⟨o, e, st, fun w => na (.inr w)⟩
  · intro i v hv
    obtain ⟨lv, e, r⟩ := paired_at p i v (by simpa using hv)
    exact ⟨lv, e, r⟩
  · intro i h b o st hb e
    rcases List.mem_cons.mp hb with rfl | hb
    · obtain ⟨o', e', c, d⟩ := st.1
      rw [e] at e'; cases e'; unfold isStore; rw [d]
    · rw [List.mem_singleton.mp hb] at e
      obtain ⟨o', e', st', _⟩ := list_store st.2
      rw [e] at e'; cases e'; exact st'
  · intro i h st
    obtain ⟨o', e', c, d⟩ := st.1
    exact ⟨o', _, e', d, by rw [c]; intro q; injection q with z; exact absurd z (by decide)⟩
  · intro i s' T elts j pos Q E st hQ
    exact wpAny_letOwnedTupleGo_listiter st.1 hQ
theorem paired_map {α β γ : Type} {F : α → γ → Prop} {G : β → γ → Prop} {f : α → β} (h : ∀ a c, F a c → G (f a) c) {l : List α} {cs : List γ} (p : Paired F l cs) : Paired G (l.map f) cs := by
  induction p with
  | nil => exact .nil
  | cons r _ ih => exact .cons (h _ _ r) ih
theorem g_lst (hh : A.handled = none) {e : LE} (ge : GoodE X A cf e) : GoodS X A cf (.lst e) := by
  intro k env ρ hs N₀ W ex items ht he EL KO hl s Q E' R h
  refine and_el ht fun ht hx => ?_
  refine and_el ht fun _ hst => ?_
  refine bind_el he fun v hv hi => ?_
  refine ge k env ρ hs N₀ W _ v hx hv EL KO hl s _ _ R fun y s₁ r k₁ => ?_
  have r := r.unfl hst
  rcases alt_of hi with ⟨xs, hxs, e⟩ | hi
  · cases e
    cases LV.ints?_of hxs
    obtain ⟨a, its, rfl, na, l, i, z⟩ := r
    exact wpAny_pyIter_list l (h _ _ (src_list hh R.lists k₁ na l (paired_map (f := LV.int) (fun n v q => q) (ints_paired i)) (by rw [List.length_map]; exact z)))
  · obtain ⟨xs, hxs, e⟩ := map_of hi
    cases e
    cases LV.rows?_of hxs
    obtain ⟨a, its, rfl, na, l, i, z⟩ := r
    exact wpAny_pyIter_list l (h _ _ (src_list hh R.lists k₁ na l (paired_map (f := LV.tup) (fun n v q => q) i) (by rw [List.length_map]; exact z)))
theorem rng_inv {F : List FnD} {k : LC} {e : LE} {ex : PySem.Expr} (h : trSrc F k (.rng e) ex = true) : ∃ q x p, ex = .Call (.Name ("range" : Str) q) [x] [] p ∧ k.isGlob "range" = true ∧ plainL x = true ∧ trL F k e x = true := by
  apply o_Call_elim h; intro z1 l kw z2 h
  apply o_Name_elim h; intro n z3 h
  apply o_cons_elim h; intro x z4 h
  apply o_nil_elim h; intro h
  apply o_nil_elim h; intro h
  refine and_el h fun h h4 => ?_
  refine and_el h fun h h3 => ?_
  refine and_el h fun h1 h2 => ?_
  cases beq_iff_eq.mp h1
  exact ⟨_, _, _, rfl, h2, h3, h4⟩
theorem g_rng (OK : LOk X) (hh : A.handled = none) {e : LE} (ge : GoodE X A cf e) : GoodS X A cf (.rng e) := by
  intro k env ρ hs N₀ W ex items ht he EL KO hl s Q E' R h
  obtain ⟨q0, x0, p0, rfl, hg, hp, ht⟩ := rng_inv ht
  refine bind_el he fun v hv hi => ?_
  refine bind_el hi fun n hn hi => ?_
  obtain ⟨q, e⟩ := ite_of hi
  cases e
  cases LV.int?_of hn
  obtain ⟨b1, b2⟩ := OK.blt "range" (.type "range") (.tail _ (.tail _ (.tail _ (.head _))))
  refine wpAny_Call_NameR (load_builtin EL (OK.g.keeps R.base) (OK.b.keeps R.base) (KO.g _ (isGlob_of hg)) b1 b2 (by decide) ?_)
  rw [plainL_star hp env []]
  refine PySem.callWith_type rfl (Calls.evalArgs_plain (Calls.spliced_cons (ge k env ρ hs N₀ W _ _ ht hv EL KO hl s _ _ R fun y s₁ r k₁ => Calls.spliced_nil ?_)))
  obtain ⟨t, rfl⟩ := r
  have hlim : (lim : Int) < 2 ^ 40 := by decide
  refine call_range_1 (wpAny_pyIter_range (IsRange.new ..) (small_one (by decide) (by decide) (by lia) (by lia)) ?_)
  have hsz : Builtin.Range.rangeSize 0 n 1 = (n.toNat : Int) := by rw [rangeSize_one]; split <;> lia
  rw [hsz]
  refine h _ _ ?_
  have kk : Kg s { s₁ with heap := s₁.heap.push { cls := .type "range", data := .fields #[.int 0 s₁.toks, .int n t, .int 1 (s₁.toks + 1)] }, toks := s₁.toks + 1 + 1 } := k₁.trans .push
  generalize hh2 : s₁.heap.push { cls := .type "range", data := .fields #[.int 0 s₁.toks, .int n t, .int 1 (s₁.toks + 1)] } = hp2 at kk
  have W0 := (Walks.range (prog := X.x.prog) (w := X.x.w) hh hp2.objs.size 0 1 n.toNat).bound
  have hlen : ((List.range n.toNat).map fun i : Nat => LV.int (i : Int)).length = n.toNat := by simp
  rw [← hlen] at W0
  refine ⟨_, _, _, _, s.heap, rfl, by rw [hlen]; lia, W0, ?_, kk.fresh, fun _ _ e => e, (kk.trans .push').grow, kk.trans .push', ⟨_, Heap.get?_push_size _ rfl⟩, ?_, ?_, ?_, ?_, ?_⟩
  · rw [hlen]
    have e1 : (0 + ((0 : Nat) : Int) * 1) = 0 := by simp
    have e2 : ((n.toNat : Int) - ((0 : Nat) : Int)) = n.toNat := by simp
    rw [e1, e2]
    exact Heap.get?_push_size _ rfl
  · intro b hb
    exact .inl (List.mem_singleton.mp hb)
  · rintro i v ⟨hi, t', rfl⟩
    rw [hlen] at hi
    exact ⟨.int i, by simp [hi], ⟨t', by simp⟩⟩
  · intro i h b o st hb e
    rw [List.mem_singleton.mp hb] at e
    have st' : h.get? _ = some _ := st
    rw [e] at st'; cases st'; rfl
  · intro i h st
    exact ⟨_, _, st, rfl, by intro q; injection q with z; exact absurd z (by decide)⟩
  · intro i s' T elts j pos Q E st hQ
    exact go_range st hQ
theorem mask_at {caps : List Nat} {ρ : LLoc} {i : Nat} {v : LV} (h : LLoc.at (maskL caps ρ) i = some v) : caps.contains i = true ∧ readV ρ i = some v := by
  unfold LLoc.at maskL at h
  rw [List.getElem?_map] at h
  by_cases q : i < ρ.length
  · rw [List.getElem?_range q] at h
    exact cond_of h
  · rw [List.getElem?_eq_none (by rw [List.length_range]; lia)] at h
    cases h
theorem mask_len {caps : List Nat} {ρ : LLoc} : (maskL caps ρ).length = ρ.length := by unfold maskL; simp
theorem at_append {ρ : LLoc} {v w : LV} {i : Nat} (h : LLoc.at (ρ ++ [some w]) i = some v) : (i < ρ.length ∧ ρ.at i = some v) ∨ (i = ρ.length ∧ v = w) := by
  unfold LLoc.at at h
  rcases Nat.lt_trichotomy i ρ.length with q | q | q
  · rw [List.getElem?_append_left q] at h; exact .inl ⟨q, h⟩
  · subst q; simp at h; exact .inr ⟨rfl, h.symm⟩
  · rw [List.getElem?_eq_none (by simp; lia)] at h; cases h
structure CompOk (k : LC) (caps : List Nat) (x : Str) (sc : Scope) : Prop where
  kind : sc.kind = .function
  dbg : (x == ("__debug__" : Str)) = false
  xl : sc.names.lookup x = some .local
  cell : ∀ y ∈ sc.names, y.2 ≠ .cell
  loc : ∀ y ∈ sc.names, y.2 = .local → sc.names.lookup y.1 = some .local
  free : ∀ y ∈ sc.names, y.2 = .free → k.names.lookup y.1 = some .cell
  caps : ∀ i ∈ caps, ∃ n, k.vars[i]? = some n ∧ n ≠ x ∧ sc.names.lookup n = some .free ∧ k.names.lookup n = some .cell
theorem compOk_of {k : LC} {caps : List Nat} {x : Str} {sc : Scope} (h : compSc k caps x sc = true) : CompOk k caps x sc := by
  unfold compSc at h
  simp only [Bool.and_eq_true, beq_iff_eq, bne_iff_ne, List.all_eq_true] at h
  obtain ⟨⟨⟨⟨h1, h2⟩, h3⟩, h4⟩, h5⟩ := h
  refine ⟨h1, beq_eq_false_iff_ne.mpr h2, h3, fun y hy q => ?_, fun y hy q => ?_, fun y hy q => ?_, fun i hi => ?_⟩
  · have := h4 y hy; rw [q] at this; cases this
  · have := h4 y hy; rw [q] at this; exact beq_iff_eq.mp this
  · have := h4 y hy; rw [q] at this; exact beq_iff_eq.mp this
  · have := h5 i hi
    split at this
    · rename_i n hn
      simp only [Bool.and_eq_true, bne_iff_ne, beq_iff_eq] at this
      exact ⟨n, hn, this.1.1, this.1.2, this.2⟩
    · cases this
theorem comp_rd {k : LC} {caps : List Nat} {x : Str} {sc : Scope} {env : Env} {ρ : LLoc} {hs : Addr → Option Obj} {N₀ W : Addr → Prop} (C : CompOk k caps x sc) (EL : EnvL env k.vars) (KO : KOk k env) (hl : ρ.length = k.vars.length)
    {s s₃ : Shared} (R : Rd X hs N₀ env k.vars ρ W s.heap) (gr : Grow s.heap s₃.heap) {Ca : Addr} {m : Str → Option Value} (ns : s₃.heap.Ns Ca m) {n : Int} {t : Tok} (hm : m x = some (.int n t)) :
    Rd X hs N₀ (compEnvC sc (clOf env.cells sc.names []) Ca env) (k.vars ++ [x]) (maskL caps ρ ++ [some (.int n)]) W s₃.heap ∧ EnvL (compEnvC sc (clOf env.cells sc.names []) Ca env) (k.vars ++ [x]) ∧ KOk ⟨sc.names, k.vars ++ [x]⟩ (compEnvC sc (clOf env.cells sc.names []) Ca env) := by
  have R₃ := R.grow gr
  have hx : (compEnvC sc (clOf env.cells sc.names []) Ca env).kindOf x = some .local := lookup_relabel_local C.xl
  refine ⟨⟨R₃.base, R₃.lists, fun i nm v hi hv => ?_, fun i nm σ mv hi hv => ?_⟩, ⟨C.kind, EL.glob, EL.blt, fun v hv => ?_⟩, ⟨fun nm h => ?_, fun nm h => ?_⟩⟩
  · rcases at_append hv with ⟨q, hv⟩ | ⟨q, rfl⟩
    · obtain ⟨hc, hr⟩ := mask_at hv
      obtain ⟨e, st⟩ := readV_of hr
      obtain ⟨nm', hn', hne, hf, hkc⟩ := C.caps i (List.contains_iff_mem.mp hc)
      rw [mask_len, hl] at q
      rw [List.getElem?_append_left q] at hi
      rw [hi] at hn'; cases hn'
      obtain ⟨y, hy, r⟩ := R₃.var i nm v hi e
      refine ⟨y, ?_, r⟩
      obtain ⟨kc, c, hcl⟩ := KO.c nm hkc
      rcases hy with ⟨kk, _⟩ | ⟨kk, c', hc', hcell⟩
      · rw [kc] at kk; cases kk
      · refine .inr ⟨(relabel_cell C.cell EL.kind).mpr ⟨hf, kc⟩, c', ?_, hcell⟩
        obtain ⟨l1, l2⟩ := clOf_lookup (cells := env.cells) sc.names [] (fun _ _ q => by simp at q)
        have hmem : (nm, NameKind.free) ∈ sc.names := mem_of_lookup hf
        obtain ⟨d, hd⟩ := Option.isSome_iff_exists.mp (l2 nm (.inr ⟨hmem, by rw [hc']; rfl⟩))
        have := l1 nm d hd
        rw [hc'] at this; cases this
        exact hd
    · rw [mask_len, hl] at q
      subst q
      rw [List.getElem?_append_right (Nat.le_refl _)] at hi
      simp at hi
      subst hi
      exact ⟨.int n t, .inl ⟨hx, m, ns, hm⟩, ⟨t, rfl⟩⟩
  · rcases at_append hv with ⟨q, hv⟩ | ⟨q, hv⟩
    · obtain ⟨hc, hr⟩ := mask_at hv
      obtain ⟨e, st⟩ := readV_of hr
      cases st
    · cases hv
  · rcases List.mem_append.mp hv with h | h
    · exact EL.nodbg v h
    · rw [List.mem_singleton.mp h]; exact C.dbg
  · exact relabel_glob (by decide) (by decide) h
  · exact absurd rfl (C.cell (nm, .cell) (mem_of_lookup h))
noncomputable def eltF (cf : Nat → List LV → Option LV) (elt : LE) (caps : List Nat) (ρ : LLoc) (it : LV) : Option Int := (evL cf elt (maskL caps ρ ++ [some it])).bind LV.int?
noncomputable def eltR (cf : Nat → List LV → Option LV) (elt : LE) (caps : List Nat) (ρ : LLoc) (v y : Value) : Prop := ∃ n t r u, v = .int n t ∧ eltF cf elt caps ρ (.int n) = some r ∧ y = .int r u
theorem mapO_at {α β : Type} {f : α → Option β} : ∀ {l : List α} {r : List β}, mapO f l = some r → ∀ {i : Nat} {a : α}, l[i]? = some a → ∃ b, f a = some b ∧ r[i]? = some b
  | a :: l, r, h, i, x, hi => by
    refine bind_el h fun b hb h => ?_
    obtain ⟨r', hr, e⟩ := map_of h
    cases e
    cases i with
    | zero => cases hi; exact ⟨b, hb, rfl⟩
    | succ i => exact mapO_at hr hi
theorem comp_ints {elt : LE} {caps : List Nat} {ρ : LLoc} {items : List LV} {rs : List Int} {vs ys : List Value} (h : mapO (eltF cf elt caps ρ) items = some rs) (hl : vs.length = items.length)
    (hv : ∀ (j : Nat) (v : Value), vs[j]? = some v → ∃ (lv : LV) (n : Int) (t : Tok), items[j]? = some lv ∧ lv = LV.int n ∧ v = Value.int n t) (p : Paired (eltR cf elt caps ρ) vs ys) : IntsAre ys rs := by
  induction p generalizing items rs with
  | nil =>
    cases items with
    | nil => cases h; exact .nil
    | cons a b => cases hl
  | cons q _ ih =>
    cases items with
    | nil => cases hl
    | cons it items =>
      refine bind_el h fun b hb h => ?_
      obtain ⟨r', hr, e⟩ := map_of h
      cases e
      obtain ⟨lv, n, t, e1, e2, e3⟩ := hv 0 _ rfl
      cases e1
      obtain ⟨n', t', r, u, e4, e5, rfl⟩ := q
      rw [e4] at e3
      cases e3
      rw [e2, e5] at hb
      cases hb
      exact .cons _ u (ih hr (Nat.succ.inj hl) fun j w hj => hv (j + 1) w hj)
theorem comp_quiet {k : LC} {caps : List Nat} {x : Str} {sc : Scope} {env : Env} {ρ : LLoc} {hs : Addr → Option Obj} {N₀ W : Addr → Prop} {elt : LE} {eex : PySem.Expr} (ge : GoodE X A cf elt) (C : CompOk k caps x sc) (EL : EnvL env k.vars) (KO : KOk k env) (hl : ρ.length = k.vars.length)
    (te : trL X.F ⟨sc.names, k.vars ++ [x]⟩ elt eex = true) {s s₂ : Shared} (R : Rd X hs N₀ env k.vars ρ W s.heap) (kg : Kg s s₂) {I : Addr} (nI : s.heap.get? I = none) {P : Nat → Value → Prop} {items : List LV} {rs : List Int} (hm : mapO (eltF cf elt caps ρ) items = some rs)
    (hP : ∀ i v, P i v → ∃ (lv : LV) (n : Int) (t : Tok), items[i]? = some lv ∧ lv = LV.int n ∧ v = Value.int n t) : QuietOnC X.x.prog X.x.w A env sc (clOf env.cells sc.names []) x [] eex [I] P (fun _ => true) (eltR cf elt caps ρ) s₂ where
  tests := fun Ca i v s₃ m₃ E' _ _ _ _ _ _ => by
    rw [List.forIn_nil]
    exact wpAny_pure ⟨rfl, ⟨s₃.heap, s₃.toks, rfl, fun _ _ e => e⟩⟩
  elt := fun Ca i v s₃ m₃ E' hCa hp _ ns hx keep _ => by
    obtain ⟨lv, n, t, e1, rfl, rfl⟩ := hP i v hp
    have gr : Grow s.heap s₃.heap := fun b o e => keep b o (fun q => by rw [List.mem_singleton.mp q, nI] at e; cases e) (kg.grow b o e)
    obtain ⟨R', EL', KO'⟩ := comp_rd C EL KO hl R gr ns hx
    obtain ⟨r, hr, _⟩ := mapO_at hm e1
    refine bind_el hr fun w hev hw => ?_
    cases LV.int?_of hw
    refine ge ⟨sc.names, k.vars ++ [x]⟩ _ _ hs N₀ W eex _ te hev EL' KO' (by simp [mask_len, hl]) s₃ _ _ R' fun y s₄ ry k₄ => ?_
    obtain ⟨u, rfl⟩ := ry
    obtain ⟨h4, t4, e4, g4⟩ := k₄
    exact ⟨⟨n, t, r, u, rfl, hr, rfl⟩, ⟨h4, t4, e4, g4⟩⟩
theorem walks_fp {I : Addr} {fp : List Addr} {W : Addr → Prop} {hp h : Heap} (eI : ∃ o, h.get? I = some o) (g : Grow hp h) (h' : ∀ b ∈ fp, b = I ∨ ∃ o, hp.get? b = some o ∧ isStore o = false ∧ ¬ W b) : ∀ b ∈ fp, b < h.objs.size := fun b hb => by
  rcases h' b hb with rfl | ⟨o, e, _⟩
  · obtain ⟨o, e⟩ := eI; exact Heap.lt_size e
  · exact Heap.lt_size (g _ _ e)
theorem none_down {h hp : Heap} {I : Addr} (g : Grow h hp) (e : hp.get? I = none) : h.get? I = none := by
  cases q : h.get? I with
  | none => rfl
  | some o => have := g _ _ q; rw [e] at this; cases this
theorem int_items {N : Addr → Prop} {h : Heap} {items : List LV} {xs : List Int} (hi : mapO asInt items = some xs) {P : Nat → Value → Prop} (hP : ∀ i v, P i v → ∃ lv, items[i]? = some lv ∧ RV N h lv v) : ∀ i v, P i v → ∃ (lv : LV) (n : Int) (t : Tok), items[i]? = some lv ∧ lv = LV.int n ∧ v = Value.int n t := by
  intro i v hp
  obtain ⟨lv, e, r⟩ := hP i v hp
  obtain ⟨n, hn, _⟩ := mapO_at hi e
  cases LV.int?_of hn
  obtain ⟨t, rfl⟩ := r
  exact ⟨_, n, t, e, rfl, rfl⟩
theorem cells_of {k : LC} {caps : List Nat} {x : Str} {sc : Scope} {env : Env} (C : CompOk k caps x sc) (KO : KOk k env) : closureFor sc env = pure (clOf env.cells sc.names []) :=
  closure_eq fun y hy hf => (KO.c y.1 (C.free y hy hf)).2
theorem fold_src {F : List FnD} {k : LC} {src : LSrc} {it : PySem.Expr} (h : trSrc F k src it = true) (env : Env) : ∀ x, foldedSetIterable it env x = pure x := by
  intro x
  cases src with
  | rng e => obtain ⟨_, _, _, rfl, _⟩ := rng_inv h; rfl
  | lst e =>
    have h := (Bool.and_eq_true_iff.mp (Bool.and_eq_true_iff.mp h).1).1
    cases it <;> first | rfl | cases h
theorem filter_tt {α : Type} (l : List α) : l.filter (fun _ => true) = l := by simp
theorem comp_inv {elt : LE} {caps : List Nat} {src : LSrc} {ρ : LLoc} {v : LV} (he : evL cf (.comp elt caps src) ρ = some v) : ∃ items xs rs, evSrc cf src ρ = some items ∧ mapO asInt items = some xs ∧ mapO (eltF cf elt caps ρ) items = some rs ∧ v = .ints rs := by
  refine bind_el he fun items hi he => ?_
  refine bind_el he fun xs hxs he => ?_
  refine map_el he fun rs hrs e => ?_
  exact ⟨items, xs, rs, hi, hxs, hrs, e.symm⟩
theorem trC_inv {F : List FnD} {k : LC} {elt : LE} {caps : List Nat} {src : LSrc} {ex : PySem.Expr} (ht : trL F k (.comp elt caps src) ex = true) : ∃ e x y1 it sc y2, ex = .ListComp e [⟨.Name x y1, it, [], 0⟩] sc y2 ∧ CompOk k caps x sc ∧ trSrc F k src it = true ∧ trL F ⟨sc.names, k.vars ++ [x]⟩ elt e = true := by
  refine inv_trL_comp ht fun _ _ _ _ _ _ _ _ hx₀ ht => ?_
  subst hx₀
  refine and_el ht fun ht hel => ?_
  refine and_el ht fun ht hsr => ?_
  refine and_el ht fun ht hc => ?_
  refine and_el ht fun h1 h2 => ?_
  cases List.isEmpty_iff.mp h1
  cases beq_iff_eq.mp h2
  exact ⟨_, _, _, _, _, _, rfl, compOk_of hc, hsr, hel⟩
theorem g_comp {elt : LE} {caps : List Nat} {src : LSrc} (ge : GoodE X A cf elt) (gs : GoodS X A cf src) : GoodE X A cf (.comp elt caps src) := by
  intro k env ρ hs N₀ W ex v ht he EL KO hl s Q E' R h
  obtain ⟨_, _, _, _, _, _, rfl, C, hsr, hel⟩ := trC_inv ht
  obtain ⟨items, xs, rs, hi, hxs, hrs, rfl⟩ := comp_inv he
  refine wpAny_ListComp_free (fun _ => true) (eltR cf elt caps ρ) (cells_of C KO) C.cell C.kind C.loc C.xl (gs k env ρ hs N₀ W _ items hsr hi EL KO hl s _ _ R fun it s₂ S => ?_) (fold_src hsr env)
  obtain ⟨I, fp, P, St, hp, rfl, hz, Wk, st, nI', g1, g2, kg, eI, hfp, hP, _⟩ := S
  have nI := none_down g1 nI'
  have hP' := int_items hxs hP
  refine ⟨I, fp, [I], items.length, P, St, rfl, Wk, Nat.le_trans hz lim_size, st, walks_fp (W := W) (I := I) eI g2 hfp, comp_quiet ge C EL KO hl hel R kg nI hrs hP', ?_⟩
  intro D h' tk ys vs hD lD pD hvl hvP pr keep
  rw [filter_tt] at pr
  have ia := comp_ints (cf := cf) hrs hvl (fun j w hj => hP' j w (hvP j w hj)) pr
  have gr : Grow s.heap h' := fun b o e => keep b o (fun q => by rw [List.mem_singleton.mp q, nI] at e; cases e) (kg.grow b o e)
  refine h _ _ ⟨D, ys, rfl, fun q => fresh_notin R.lists (none_down kg.grow hD) q.2, lD, ia, by rw [mapO_len hrs]; exact hz⟩ ?_
  obtain ⟨h2, t2, rfl, g2⟩ := kg
  exact ⟨h', tk, rfl, gr⟩
end
end Mine

end
section
open PySem PySem.W PyProof.Rows
set_option maxRecDepth 100000
set_option maxHeartbeats 1000000
set_option linter.unusedSimpArgs false
set_option linter.unusedVariables false
namespace Mine
structure EnvF (env : Env) (k : LC) : Prop where
  el : EnvL env k.vars
  ko : KOk k env
  nodup : k.vars.Nodup
  apart : env.cells.Pairwise fun x y => x.2 ≠ y.2
  kinds : ∀ n ∈ k.vars, env.kindOf n = some .local ∨ (env.kindOf n = some .cell ∧ ∃ c, env.cells.lookup n = some c)
  names : k.names = env.scope.names
structure FrR (X : LX) (hs : Addr → Option Obj) (N₀ : Addr → Prop) (env : Env) (vars : List Str) (ρ : LLoc) (W : Addr → Prop) (h : Heap) : Prop where
  rd : Rd X hs N₀ env vars ρ W h
  up : ∀ b o, X.x.h₀.get? b = some o → hs b = some o
  hb : ∀ b o, hs b = some o → h.get? b = some o
  wnew : ∀ a, W a → hs a = none
  locN : hs env.locals = none
  locNs : ∃ m, h.Ns env.locals m
  celN : ∀ n c, env.cells.lookup n = some c → hs c = none ∧ ∃ v, h.IsCell c v
  ownD : ∀ i j ni nj u v a, vars[i]? = some ni → vars[j]? = some nj → ρ.at i = some u → ρ.at j = some v → Ow u = true → Ow v = true → VarAt env h ni (.ref a) → VarAt env h nj (.ref a) → i = j
  mchD : ∀ i j ni nj σ τ m n I J D, vars[i]? = some ni → vars[j]? = some nj → ρ.at i = some (.mpu σ m) → ρ.at j = some (.mpu τ n) → VarAt env h ni (.ref I) → VarAt env h nj (.ref J) → h.get? I = some (instObj X.x.C D) → h.get? J = some (instObj X.x.C D) → i = j
  len : ρ.length = vars.length
  n0 : ∀ a, N₀ a → hs a ≠ none
section
variable {X : LX} {hs : Addr → Option Obj} {N₀ : Addr → Prop} {env : Env} {vars : List Str} {ρ : LLoc} {W : Addr → Prop} {h h' : Heap} {Z : Addr → Prop}
theorem FrR.h0 (R : FrR X hs N₀ env vars ρ W h) : ∀ b o, X.x.h₀.get? b = some o → h.get? b = some o := fun b o e => R.hb b o (R.up b o e)
theorem store_dict {a : Addr} {m : Str → Option Value} (n : h.Ns a m) : ∃ o, h.get? a = some o ∧ isStore o = true := by
  obtain ⟨o, es, ep, e, d, _⟩ := n
  exact ⟨o, e, by unfold isStore; rw [d]⟩
theorem store_cell {a : Addr} {v : Option Value} (n : h.IsCell a v) : ∃ o, h.get? a = some o ∧ isStore o = true := by
  obtain ⟨o, e, d⟩ := n
  exact ⟨o, e, by unfold isStore; rw [d]⟩
noncomputable abbrev KeepZ (Z : Addr → Prop) (h h' : Heap) : Prop := ∀ b o, ¬ Z b → h.get? b = some o → h'.get? b = some o
theorem Rp.move {x : Cx} {v : V} {y : Value} (r : Rp x h v y) (k : KeepZ Z h h') (zm : ∀ b f s, h.get? b = some (methodObj f s) → ¬ Z b) : Rp x h' v y := by
  cases v <;> try exact r
  obtain ⟨b, e, g⟩ := r
  exact ⟨b, e, k b _ (zm _ _ _ g) g⟩
theorem Mr.move {x : Cx} {σ : M} {its : Array Value} {xs : List Int} (m : Mr x σ h) (k : KeepZ Z h h') (z0 : ∀ b o, x.h₀.get? b = some o → ¬ Z b) (zI : ¬ Z x.I) (zD : ¬ Z x.D) (zm : ∀ b f s, h.get? b = some (methodObj f s) → ¬ Z b)
    (l : PlainL h' x.L its) (ia : IntsAre its.toList xs) (z : xs.length < 2 ^ 62) : Mr x { σ with mem := xs } h' := by
  obtain ⟨mm, n, r, zz⟩ := m.ns
  exact ⟨fun b o e => k b o (z0 b o e) (m.stays b o e), k _ _ zI m.inst, ⟨mm, n.at fun o e => k _ o zD e, fun f => by rw [M.get_mem]; exact (r f).map fun v rv => rv.move k zm, zz⟩, ⟨its, l, ia⟩, z⟩
theorem VarAt.move {n : Str} {y : Value} (v : VarAt env h n y) (k : KeepZ Z h h') (zl : ¬ Z env.locals) (zc : ∀ n c, env.cells.lookup n = some c → ¬ Z c) : VarAt env h' n y := by
  rcases v with ⟨a, m, hm, e⟩ | ⟨a, c, hc, o, eo, d⟩
  · exact .inl ⟨a, m, hm.at' fun o e => k _ o zl e, e⟩
  · exact .inr ⟨a, c, hc, o, k _ o (zc n c hc) eo, d⟩
theorem FrR.upd (R : FrR X hs N₀ env vars ρ W h) (i : Nat) (ρ' : LLoc) (k : KeepZ Z h h') (zhs : ∀ b, Z b → hs b = none) (loc : ∃ m, h'.Ns env.locals m) (cel : ∀ n c, env.cells.lookup n = some c → ∃ v, h'.IsCell c v) (lst : Lists (nn N₀ W) h')
    (len : ρ'.length = vars.length) (old : ∀ j, j ≠ i → LLoc.at ρ' j = ρ.at j) (var : ∀ j nj y, j ≠ i → vars[j]? = some nj → VarAt env h nj y → VarAt env h' nj y)
    (val : ∀ j nj u y, j ≠ i → vars[j]? = some nj → ρ.at j = some u → VarAt env h nj y → RVar N₀ W h u y → RVar N₀ W h' u y)
    (mch : ∀ j nj σ mv I D L xs nm, j ≠ i → vars[j]? = some nj → ρ.at j = some (.mpu σ mv) → VarAt env h nj (.ref I) → Mch X hs env vars ρ h I D L xs nm σ mv → ∃ xs', Mch X hs env vars ρ' h' I D L xs' nm σ mv)
    (self : ∀ n v, vars[i]? = some n → LLoc.at ρ' i = some v → (∃ y, VarAt env h' n y ∧ RVar N₀ W h' v y) ∧ ∀ σ mv, v = .mpu σ mv → ∃ I D L xs nm, VarAt env h' n (.ref I) ∧ Mch X hs env vars ρ' h' I D L xs nm σ mv)
    (selfO : ∀ n u a, vars[i]? = some n → LLoc.at ρ' i = some u → Ow u = true → VarAt env h' n (.ref a) → ∀ j nj w, j ≠ i → vars[j]? = some nj → ρ.at j = some w → Ow w = true → ¬ VarAt env h nj (.ref a))
    (selfM : ∀ n σ mv I D, vars[i]? = some n → LLoc.at ρ' i = some (.mpu σ mv) → VarAt env h' n (.ref I) → h'.get? I = some (instObj X.x.C D) → ∀ j nj τ m J, j ≠ i → vars[j]? = some nj → ρ.at j = some (.mpu τ m) → VarAt env h nj (.ref J) → h.get? J ≠ some (instObj X.x.C D)) :
    FrR X hs N₀ env vars ρ' W h' := by
  have back : ∀ j nj u y, j ≠ i → vars[j]? = some nj → ρ.at j = some u → VarAt env h' nj y → VarAt env h nj y := fun j nj u y q hj hu v => by
    obtain ⟨y', b, _⟩ := R.rd.var j nj u hj hu
    exact (var j nj y' q hj b).unique v ▸ b
  have instB : ∀ j nj σ m J D, j ≠ i → vars[j]? = some nj → ρ.at j = some (.mpu σ m) → VarAt env h nj (.ref J) → h'.get? J = some (instObj X.x.C D) → h.get? J = some (instObj X.x.C D) := fun j nj σ m J D q hj hu v e => by
    obtain ⟨I, D', L, xs, nm, vI, M⟩ := R.rd.mach j nj σ m hj hu
    cases v.unique vI
    obtain ⟨xs', M'⟩ := mch j nj σ m J D' L xs nm q hj hu v M
    have e1 : h.get? J = some (instObj X.x.C D') := M.mr.inst
    have e2 : h'.get? J = some (instObj X.x.C D') := M'.mr.inst
    rw [e2] at e; rw [e1]; exact e
  refine ⟨⟨fun b o e => k b o (fun q => by have := R.up b o e; rw [zhs b q] at this; cases this) (R.rd.base b o e), lst, fun j nj u hj hu => ?_, fun j nj σ mv hj hu => ?_⟩, R.up, fun b o e => k b o (fun q => by rw [zhs b q] at e; cases e) (R.hb b o e), R.wnew, R.locN, loc, fun n c hc => ⟨(R.celN n c hc).1, cel n c hc⟩, ?_, ?_, len, R.n0⟩
  · by_cases q : j = i
    · subst q; exact (self nj u hj hu).1
    · rw [old j q] at hu
      obtain ⟨y, va, r⟩ := R.rd.var j nj u hj hu
      exact ⟨y, var j nj y q hj va, val j nj u y q hj hu va r⟩
  · by_cases q : j = i
    · subst q; exact (self nj _ hj hu).2 σ mv rfl
    · rw [old j q] at hu
      obtain ⟨I, D, L, xs, nm, va, M⟩ := R.rd.mach j nj σ mv hj hu
      obtain ⟨xs', M'⟩ := mch j nj σ mv I D L xs nm q hj hu va M
      exact ⟨I, D, L, xs', nm, var j nj _ q hj va, M'⟩
  · intro j1 j2 n1 n2 u v a h1 h2 h3 h4 o1 o2 h5 h6
    by_cases q1 : j1 = i <;> by_cases q2 : j2 = i
    · rw [q1, q2]
    · subst q1; rw [old j2 q2] at h4
      exact absurd (back j2 n2 _ _ q2 h2 h4 h6) (selfO n1 u a h1 h3 o1 h5 j2 n2 v q2 h2 h4 o2)
    · subst q2; rw [old j1 q1] at h3
      exact absurd (back j1 n1 _ _ q1 h1 h3 h5) (selfO n2 v a h2 h4 o2 h6 j1 n1 u q1 h1 h3 o1)
    · rw [old j1 q1] at h3; rw [old j2 q2] at h4
      exact R.ownD j1 j2 n1 n2 u v a h1 h2 h3 h4 o1 o2 (back j1 n1 _ _ q1 h1 h3 h5) (back j2 n2 _ _ q2 h2 h4 h6)
  · intro j1 j2 n1 n2 σ τ m n I J D h1 h2 h3 h4 h5 h6 h7 h8
    by_cases q1 : j1 = i <;> by_cases q2 : j2 = i
    · rw [q1, q2]
    · subst q1; rw [old j2 q2] at h4
      exact absurd (instB j2 n2 τ n J D q2 h2 h4 (back j2 n2 _ _ q2 h2 h4 h6) h8) (selfM n1 σ m I D h1 h3 h5 h7 j2 n2 τ n J q2 h2 h4 (back j2 n2 _ _ q2 h2 h4 h6))
    · subst q2; rw [old j1 q1] at h3
      exact absurd (instB j1 n1 σ m I D q1 h1 h3 (back j1 n1 _ _ q1 h1 h3 h5) h7) (selfM n2 τ n J D h2 h4 h6 h8 j1 n1 σ m I q1 h1 h3 (back j1 n1 _ _ q1 h1 h3 h5))
    · rw [old j1 q1] at h3; rw [old j2 q2] at h4
      have v1 := back j1 n1 _ _ q1 h1 h3 h5
      have v2 := back j2 n2 _ _ q2 h2 h4 h6
      exact R.mchD j1 j2 n1 n2 σ τ m n I J D h1 h2 h3 h4 v1 v2 (instB j1 n1 σ m I D q1 h1 h3 v1 h7) (instB j2 n2 τ n J D q2 h2 h4 v2 h8)
theorem nth_none : vars[vars.length]? = none := List.getElem?_eq_none (Nat.le_refl _)
theorem FrR.same (R : FrR X hs N₀ env vars ρ W h) (k : KeepZ Z h h') (zhs : ∀ b, Z b → hs b = none) (zl : ¬ Z env.locals) (zc : ∀ n c, env.cells.lookup n = some c → ¬ Z c) (zs : ∀ b o a n, h.get? b = some o → o.data = .seq a n → ¬ Z b)
    (zM : ∀ b f s, h.get? b = some (methodObj f s) → ¬ Z b) (zi : ∀ b C D, h.get? b = some (instObj C D) → ¬ Z b) (zd : ∀ b m, h.Ns b m → ¬ Z b) : FrR X hs N₀ env vars ρ W h' := by
  have ls : ∀ {a its}, PlainL h a its → PlainL h' a its := fun l => by obtain ⟨o, n, e, c, dn, d⟩ := l; exact ⟨o, n, k _ _ (zs _ _ _ _ e d) e, c, dn, d⟩
  have vm : ∀ {n y}, VarAt env h n y → VarAt env h' n y := fun v => v.move k zl zc
  refine R.upd vars.length ρ k zhs (by obtain ⟨m, n⟩ := R.locNs; exact ⟨m, n.at' fun o e => k _ o zl e⟩) (fun n c hc => by obtain ⟨_, v, o, e, d⟩ := R.celN n c hc; exact ⟨v, o, k _ _ (zc n c hc) e, d⟩) (fun a w => by obtain ⟨its, l⟩ := R.rd.lists a w; exact ⟨its, ls l⟩)
    R.len (fun _ _ => rfl) (fun _ _ _ _ _ v => vm v) (fun _ _ _ _ _ _ _ _ r => r.keepS (fun b o a n e d _ => k b o (zs b o a n e d) e) fun _ _ _ _ _ l => ls l) (fun j nj σ mv I D L xs nm _ _ _ _ M => ⟨xs, M.own, M.nam, vm M.vL, ?_, M.hD, M.d0, M.l0, M.Dl⟩)
    (fun n v hn => by rw [nth_none] at hn; cases hn) (fun n xs a hn => by rw [nth_none] at hn; cases hn) (fun n σ mv I D hn => by rw [nth_none] at hn; cases hn)
  obtain ⟨its, l, ia⟩ := M.mr.mem
  obtain ⟨m, n, _⟩ := M.mr.ns
  exact M.mr.move (xs := xs) k (fun b o e q => by have := R.up b o e; rw [zhs b q] at this; cases this) (zi _ _ _ M.mr.inst) (zd _ _ n.ns) zM (ls l) ia M.mr.sz
theorem FrR.grow (R : FrR X hs N₀ env vars ρ W h) (g : Grow h h') : FrR X hs N₀ env vars ρ W h' :=
  R.same (Z := fun _ => False) (fun b o _ e => g b o e) (fun _ q => q.elim) (fun q => q) (fun _ _ _ q => q) (fun _ _ _ _ _ _ q => q) (fun _ _ _ _ q => q) (fun _ _ _ _ q => q) (fun _ _ _ q => q)
theorem VarAt.down {n : Str} {y : Value} (R : FrR X hs N₀ env vars ρ W h) (g : Grow h h') {i : Nat} {v : LV} (hi : vars[i]? = some n) (hv : ρ.at i = some v) (a : VarAt env h' n y) : VarAt env h n y := by
  obtain ⟨y', b, _⟩ := R.rd.var i n v hi hv
  exact (b.grow g).unique a ▸ b
structure StoreR (hs : Addr → Option Obj) (env : Env) (n : Str) (y : Value) (h h' : Heap) : Prop where
  same : ∃ z o, h.get? z = some o ∧ isStore o = true ∧ hs z = none ∧ (z = env.locals ∨ ∃ v, o.data = .cell v) ∧ (∀ b o, b ≠ z → h.get? b = some o → h'.get? b = some o) ∧ ∃ o', h'.get? z = some o'
  var : ∀ nm y', nm ≠ n → VarAt env h nm y' → VarAt env h' nm y'
  self : VarAt env h' n y
  loc : ∃ m, h'.Ns env.locals m
  cel : ∀ n c, env.cells.lookup n = some c → ∃ v, h'.IsCell c v
theorem storeR_local (R : FrR X hs N₀ env vars ρ W h) {n : Str} {y : Value} {m : Str → Option Value} (hkk : env.kindOf n = some .local) (ns : h.Ns env.locals m) (ns' : h'.Ns env.locals (fun z => if z = n then some y else m z))
    (keep' : ∀ b o, b ≠ env.locals → h.get? b = some o → h'.get? b = some o) : StoreR hs env n y h h' := by
  obtain ⟨o, eo, so⟩ := store_dict ns
  have cne : ∀ c v, h.IsCell c v → h'.IsCell c v := fun c v hv => by
    obtain ⟨o1, e1, d1⟩ := hv
    obtain ⟨o2, es, ep, e2, d2, _⟩ := ns
    exact ⟨o1, keep' _ _ (fun q => by rw [q, e2] at e1; cases e1; rw [d1] at d2; cases d2) e1, d1⟩
  refine ⟨⟨env.locals, o, eo, so, R.locN, .inl rfl, keep', by obtain ⟨o', _, _, e, _⟩ := ns'; exact ⟨o', e⟩⟩, fun nm y' hne v => ?_, .inl ⟨hkk, _, ns', if_pos rfl⟩, ⟨_, ns'⟩, fun n' c' hc' => ?_⟩
  · rcases v with ⟨kk, m', hm', e⟩ | ⟨kk, c', hc', hv⟩
    · rw [ns_unique hm' ns] at e
      exact .inl ⟨kk, _, ns', by rw [if_neg hne]; exact e⟩
    · exact .inr ⟨kk, c', hc', cne c' _ hv⟩
  · obtain ⟨_, v, hv⟩ := R.celN n' c' hc'
    exact ⟨v, cne c' v hv⟩
theorem raw_store {k : LC} {A : Around} {s : Shared} {E' : Value → Shared → Prop} (EF : EnvF env k) (R : FrR X hs N₀ env k.vars ρ W s.heap) {n : Str} {y : Value} (hn : n ∈ k.vars) {Q : Unit → Shared → Prop}
    (hq : ∀ h' t', StoreR hs env n y s.heap h' → Q () { s with heap := h', toks := t' }) : wpAny (model X.x.prog X.x.w) A (storeName env n y) Q E' s := by
  obtain ⟨m, ns⟩ := R.locNs
  rcases EF.kinds n hn with kl | ⟨kc, c, hc⟩
  · have hp : (env.scope.kind == .class || (env.scope.kind == .module && env.locals != env.globals)) = false := by rw [EF.el.kind]; rfl
    exact wpAny_storeName_local kl ns (fun h' ns' sb => hq h' _ (storeR_local R kl ns ns' fun b o q e => by rw [sb.2 b q]; exact e)) hp
  · obtain ⟨hsc, v₀, hcell⟩ := R.celN n c hc
    refine wpAny_storeName_cell EF.el.kind kc hc hcell fun h' hc' sb => ?_
    have keep : ∀ b o, b ≠ c → s.heap.get? b = some o → h'.get? b = some o := fun b o q e => by rw [sb.2 b q]; exact e
    obtain ⟨o, eo, do'⟩ := id hcell
    have lne : env.locals ≠ c := fun q => by
      obtain ⟨o2, es, ep, e2, d2, _⟩ := ns
      rw [q, eo] at e2; cases e2; rw [do'] at d2; cases d2
    have ns' : h'.Ns env.locals m := ns.at' fun o e => keep _ o lne e
    refine hq h' _ ⟨⟨c, o, eo, by unfold isStore; rw [do'], hsc, .inr ⟨_, do'⟩, keep, by obtain ⟨o', e, _⟩ := hc'; exact ⟨o', e⟩⟩, fun nm y' hne v => ?_, .inr ⟨kc, c, hc, hc'⟩, ⟨m, ns'⟩, fun n' c' hc'' => ?_⟩
    · rcases v with ⟨kk, m', hm', e⟩ | ⟨kk, c', hc'', hv⟩
      · rw [ns_unique hm' ns] at e
        exact .inl ⟨kk, m, ns', e⟩
      · have : c' ≠ c := fun q => hne (name_of_addr EF.apart (mem_of_lookup hc'') (q ▸ mem_of_lookup hc))
        obtain ⟨o1, e1, d1⟩ := hv
        exact .inr ⟨kk, c', hc'', ⟨o1, keep _ _ this e1, d1⟩⟩
    · by_cases q : c' = c
      · subst q; exact ⟨_, hc'⟩
      · obtain ⟨_, v, o1, e1, d1⟩ := R.celN n' c' hc''
        exact ⟨v, o1, keep _ _ q e1, d1⟩
theorem LLoc.at_ne {i j : Nat} {o : Option LV} (q : j ≠ i) : LLoc.at (ρ.set i o) j = ρ.at j := by
  unfold LLoc.at
  rw [List.getElem?_set, if_neg (Ne.symm q)]
theorem LLoc.at_self {i : Nat} {o : Option LV} (hi : i < ρ.length) : LLoc.at (ρ.set i o) i = o := by
  unfold LLoc.at
  rw [List.getElem?_set, if_pos rfl, if_pos hi]; rfl
theorem setL_of {i : Nat} {v : LV} {ρ' : LLoc} (h : setL ρ i v = some ρ') : i < ρ.length ∧ ρ' = ρ.set i (some v) := by
  obtain ⟨q, e⟩ := ite_of h
  cases e
  exact ⟨q, rfl⟩
theorem StoreR.evo {n : Str} {y : Value} (S : StoreR hs env n y h h') : Evo (fun _ => False) h h' := fun b o e _ st => by
  obtain ⟨z, oz, ez, sz, _, _, k, _⟩ := S.same
  exact k b o (fun q => by rw [q, ez] at e; cases e; rw [sz] at st; cases st) e
theorem Evo.seqk0 {N : Addr → Prop} (e : Evo (fun _ => False) h h') : SeqK N h h' := fun b o a n eo d _ => e b o eo (fun q => q) (by unfold isStore; rw [d])
theorem RVar.evo0 {v : LV} {y : Value} (r : RVar N₀ W h v y) (k : Evo (fun _ => False) h h') : RVar N₀ W h' v y :=
  r.keepS k.seqk0 fun a its _ _ _ l => by obtain ⟨o, n, e, c, dn, d⟩ := l; exact ⟨o, n, k a o e (fun q => q) (by unfold isStore; rw [d]), c, dn, d⟩
theorem free_of {i : Nat} (hf : free ρ i = true) : ∀ j σ, ρ.at j ≠ some (.mpu σ i) := fun j σ q => by
  unfold LLoc.at at q
  cases e : ρ[j]? with
  | none => rw [e] at q; cases q
  | some o =>
    rw [e] at q
    obtain rfl : o = some (.mpu σ i) := q
    have := List.all_eq_true.mp hf _ (List.mem_of_getElem? e)
    have h2 : (!Nat.beq i i) = true := this
    rw [Nat.beq_refl] at h2
    cases h2
theorem names_ne {i j : Nat} {n m : Str} (nd : vars.Nodup) (hi : vars[i]? = some n) (hj : vars[j]? = some m) (e : j ≠ i) : m ≠ n := by
  rintro rfl
  obtain ⟨a1, a2⟩ := List.getElem?_eq_some_iff.mp hi
  obtain ⟨b1, b2⟩ := List.getElem?_eq_some_iff.mp hj
  have nd := List.pairwise_iff_getElem.mp nd
  rcases Nat.lt_or_gt_of_ne e with q | q
  · exact nd j i b1 a1 q (b2.trans a2.symm)
  · exact nd i j a1 b1 q (a2.trans b2.symm)
noncomputable def NewMach (X : LX) (hs : Addr → Option Obj) (env : Env) (vars : List Str) (ρ : LLoc) (h : Heap) (i : Nat) (y : Value) (σ : M) (mv : Nat) : Prop :=
  mv ≠ i ∧ ∃ I D L xs nm, y = .ref I ∧ Mch X hs env vars ρ h I D L xs nm σ mv ∧ ∀ j nj τ m J, j ≠ i → vars[j]? = some nj → ρ.at j = some (.mpu τ m) → VarAt env h nj (.ref J) → h.get? J ≠ some (instObj X.x.C D)
theorem FrR.stored (R : FrR X hs N₀ env vars ρ W h) (nd : vars.Nodup) {i : Nat} {n : Str} {v : LV} {y : Value} (S : StoreR hs env n y h h') (hi : vars[i]? = some n) (hf : free ρ i = true) (rv : RVar N₀ W h' v y)
    (ho : ∀ a, Ow v = true → y = .ref a → ∀ j nj w, j ≠ i → vars[j]? = some nj → ρ.at j = some w → Ow w = true → ¬ VarAt env h nj (.ref a)) (hm : ∀ σ mv, v = .mpu σ mv → NewMach X hs env vars ρ h i y σ mv) : FrR X hs N₀ env vars (ρ.set i (some v)) W h' := by
  have fr := free_of hf
  have hlt : i < ρ.length := by rw [R.len]; exact (List.getElem?_eq_some_iff.mp hi).1
  have ev := S.evo
  obtain ⟨z, oz, ez, sz, hz, zk, keep, _⟩ := S.same
  have ls : ∀ {a its}, PlainL h a its → PlainL h' a its := fun l => by obtain ⟨o, n, e, c, dn, d⟩ := l; exact ⟨o, n, ev _ o e (fun q => q) (by unfold isStore; rw [d]), c, dn, d⟩
  have vm : ∀ j nj y', j ≠ i → vars[j]? = some nj → VarAt env h nj y' → VarAt env h' nj y' := fun j nj y' q hj a => S.var nj y' (names_ne nd hi hj q) a
  have mo : ∀ {I D L xs nm σ mv}, mv ≠ i → Mch X hs env vars ρ h I D L xs nm σ mv → Mch X hs env vars (ρ.set i (some v)) h' I D L xs nm σ mv := fun {I D L xs nm σ mv} q M => by
    obtain ⟨its, l, ia⟩ := M.mr.mem
    obtain ⟨mm, ns, _⟩ := M.mr.ns
    have st : ∀ {b o}, h.get? b = some o → isStore o = false → b ≠ z := fun e s q => by rw [q, ez] at e; cases e; rw [sz] at s; cases s
    refine ⟨by rw [LLoc.at_ne q]; exact M.own, M.nam, vm mv nm _ q M.nam M.vL, M.mr.move (Z := fun b => b = z) (xs := xs) keep (fun b o e q => ?_) (st M.mr.inst rfl) (fun q => ?_) (fun b f s e => st e rfl) (ls l) ia M.mr.sz, M.hD, M.d0, M.l0, M.Dl⟩
    · have := R.up b o e; rw [q, hz] at this; cases this
    · obtain ⟨o2, es, ep, e2, d2, _⟩ := ns.ns
      have q : D = z := q
      rcases zk with q' | ⟨u, d⟩
      · exact M.Dl (q.trans q')
      · have e2 : h.get? D = some o2 := e2
        rw [q, ez] at e2; cases e2; rw [d] at d2; cases d2
  refine R.upd (Z := fun b => b = z) i _ keep (fun b q => q ▸ hz) S.loc S.cel (fun a w => by obtain ⟨its, l⟩ := R.rd.lists a w; exact ⟨its, ls l⟩) (by rw [List.length_set]; exact R.len) (fun j q => LLoc.at_ne q) vm (fun _ _ _ _ _ _ _ _ r => r.evo0 ev)
    (fun j nj σ mv I D L xs nm q hj hu va M => ⟨xs, mo (fun e => fr j σ (e ▸ hu)) M⟩) (fun n' u hn hu => ?_) (fun n' u a hn hu ow va => ?_) (fun n' σ mv I D hn hu va e => ?_)
  all_goals (rw [hi] at hn; cases hn; rw [LLoc.at_self hlt] at hu; cases hu)
  · refine ⟨⟨y, S.self, rv⟩, fun σ mv e => ?_⟩
    obtain ⟨q, I, D, L, xs, nm, rfl, M, _⟩ := hm σ mv e
    exact ⟨I, D, L, xs, nm, S.self, mo q M⟩
  · exact ho a ow (S.self.unique va)
  · obtain ⟨q, I', D', L, xs, nm, e', M, no⟩ := hm σ mv rfl
    have M' := mo q M
    rw [e'] at S
    cases S.self.unique va
    have e2 : h'.get? I = some (instObj X.x.C D') := M'.mr.inst
    rw [e2] at e
    obtain rfl : D' = D := by injection e with e; injection e with _ e; injection e
    exact no
end
end Mine

end
section
open PySem PySem.W PyProof.Rows
set_option maxRecDepth 100000
set_option maxHeartbeats 1000000
set_option linter.unusedSimpArgs false
set_option linter.unusedVariables false
namespace Mine
structure Aft (X : LX) (hs : Addr → Option Obj) (N₀ : Addr → Prop) (env : Env) (vars : List Str) (W : Addr → Prop) (s : Shared) (ρ' : LLoc) (W' : Addr → Prop) (s' : Shared) : Prop where
  fr : FrR X hs N₀ env vars ρ' W' s'.heap
  new : ∀ a, W' a → W a ∨ s.heap.get? a = none
  evo : Evo W s.heap s'.heap
  live : ∀ b o, s.heap.get? b = some o → ∃ o', s'.heap.get? b = some o'
  ks : Ks s s'
section
variable {X : LX} {hs : Addr → Option Obj} {N₀ : Addr → Prop} {env : Env} {k : LC} {ρ ρ' ρ'' : LLoc} {W W' W'' : Addr → Prop} {s s' s'' : Shared} {A : Around} {E' : Value → Shared → Prop}
theorem Evo.mono {h h' : Heap} (e : Evo W h h') (q : ∀ a, W a → W' a) : Evo W' h h' := fun b o e' n st => e b o e' (fun w => n (q b w)) st
theorem Aft.trans (a : Aft X hs N₀ env k.vars W s ρ' W' s') (b : Aft X hs N₀ env k.vars W' s' ρ'' W'' s'') : Aft X hs N₀ env k.vars W s ρ'' W'' s'' := by
  refine ⟨b.fr, fun x w => ?_, fun x o e n st => ?_, fun x o e => ?_, a.ks.trans b.ks⟩
  · rcases b.new x w with q | q
    · exact a.new x q
    · right
      cases e : s.heap.get? x with
      | none => rfl
      | some o => obtain ⟨o', e'⟩ := a.live x o e; rw [q] at e'; cases e'
  · refine b.evo x o (a.evo x o e n st) (fun w => ?_) st
    rcases a.new x w with q | q
    · exact n q
    · rw [q] at e; cases e
  · obtain ⟨o', e'⟩ := a.live x o e; exact b.live x o' e'
theorem Aft.of_kg (R : FrR X hs N₀ env k.vars ρ W s.heap) (g : Kg s s') : Aft X hs N₀ env k.vars W s ρ W s' :=
  ⟨R.grow g.grow, fun _ w => .inl w, .of_grow g.grow, fun b o e => ⟨o, g.grow b o e⟩, g.ks⟩
theorem Aft.refl (R : FrR X hs N₀ env k.vars ρ W s.heap) : Aft X hs N₀ env k.vars W s ρ W s := .of_kg R .refl
theorem Aft.val (a : Aft X hs N₀ env k.vars W s ρ' W' s') (R : FrR X hs N₀ env k.vars ρ W s.heap) {v : LV} {y : Value} (r : RV (nn N₀ W) s.heap v y) : RV (nn N₀ W') s'.heap v y := by
  refine r.keep2 (a.evo.seqk (fun b w => .inr w) fun b w => R.rd.lists b (.inr w)) fun b ⟨o, e⟩ q => ?_
  rcases q with q | q
  · exact .inl q
  · rcases a.new b q with z | z
    · exact .inr z
    · rw [z] at e; cases e
theorem stored_aft (EF : EnvF env k) (R : FrR X hs N₀ env k.vars ρ W s.heap) {i : Nat} {n : Str} {v : LV} {y : Value} (hi : k.vars[i]? = some n) (hf : free ρ i = true) (hset : setL ρ i v = some ρ') (rv : RVar N₀ W s.heap v y)
    (ho : ∀ a, Ow v = true → y = .ref a → ∀ j nj w, j ≠ i → k.vars[j]? = some nj → ρ.at j = some w → Ow w = true → ¬ VarAt env s.heap nj (.ref a)) (hm : ∀ σ mv, v = .mpu σ mv → NewMach X hs env k.vars ρ s.heap i y σ mv) {Q : Unit → Shared → Prop}
    (h : ∀ s', Aft X hs N₀ env k.vars W s ρ' W s' → Q () s') : wpAny (model X.x.prog X.x.w) A (storeName env n y) Q E' s := by
  obtain ⟨hlt, rfl⟩ := setL_of hset
  refine raw_store EF R (List.mem_of_getElem? hi) fun h' t' S => h _ ⟨R.stored EF.nodup S hi hf (rv.evo0 S.evo) ho hm, fun _ w => .inl w, S.evo.mono fun _ q => q.elim, fun b o e => ?_, ⟨h', t', rfl⟩⟩
  obtain ⟨z, oz, ez, sz, hz, zk, keep, lv⟩ := S.same
  by_cases q : b = z
  · subst q; exact lv
  · exact ⟨o, keep b o q e⟩
theorem putV_of {i : Nat} {v : LV} (h : putV ρ i v = some ρ') : stable v = true ∧ free ρ i = true ∧ setL ρ i v = some ρ' := by
  obtain ⟨q, h⟩ := cond_of h
  refine and_el q fun a b => ?_
  exact ⟨a, b, h⟩
theorem store_val (EF : EnvF env k) (R : FrR X hs N₀ env k.vars ρ W s.heap) {i : Nat} {n : Str} {v : LV} {y : Value} (hi : k.vars[i]? = some n) (hp : putV ρ i v = some ρ') (r : RV (nn N₀ W) s.heap v y) {Q : Unit → Shared → Prop}
    (h : ∀ s', Aft X hs N₀ env k.vars W s ρ' W s' → Q () s') : wpAny (model X.x.prog X.x.w) A (storeName env n y) Q E' s := by
  obtain ⟨st, hf, hset⟩ := putV_of hp
  exact stored_aft EF R hi hf hset r.var (fun a o => by cases v <;> first | exact absurd o Bool.false_ne_true | exact absurd st Bool.false_ne_true) (fun σ mv q => by rw [q] at st; cases st) h
theorem FrR.addW (R : FrR X hs N₀ env k.vars ρ W s.heap) (g : Kg s s') {a : Addr} (na : s.heap.get? a = none) {its : Array Value} (l : PlainL s'.heap a its) : Aft X hs N₀ env k.vars W s ρ (fun b => W b ∨ b = a) s' := by
  have gr := g.grow
  have R' := R.grow gr
  have hsa : hs a = none := by
    cases e : hs a with
    | none => rfl
    | some o => have := R.hb a o e; rw [na] at this; cases this
  have wk : ∀ {v : LV} {y : Value}, RV (nn N₀ W) s.heap v y → RV (nn N₀ fun b => W b ∨ b = a) s'.heap v y := fun r => by
    refine RV.grow (r.weak fun b ⟨o, e⟩ q => ?_) gr
    rcases q with q | q | q
    · exact .inl q
    · exact .inr q
    · rw [q, na] at e; cases e
  refine ⟨⟨⟨R'.rd.base, fun b w => ?_, fun i n v hi hv => ?_, R'.rd.mach⟩, R'.up, R'.hb, fun b w => ?_, R'.locN, R'.locNs, R'.celN, R'.ownD, R'.mchD, R'.len, R'.n0⟩, fun b w => ?_, .of_grow gr, fun b o e => ⟨o, gr b o e⟩, g.ks⟩
  · rcases w with w | w | w
    · exact R'.rd.lists b (.inl w)
    · exact R'.rd.lists b (.inr w)
    · subst w; exact ⟨its, l⟩
  · obtain ⟨y, va, r⟩ := R.rd.var i n v hi hv
    refine ⟨y, va.grow gr, ?_⟩
    cases v with
    | own xs => obtain ⟨b, its', e, w, l', ia⟩ := r.grow gr; exact ⟨b, its', e, .inl w, l', ia⟩
    | ownR xs =>
      obtain ⟨b, its', e, w, l', p, z⟩ := r
      refine ⟨b, its', e, .inl w, l'.keeps gr, p.mono fun _ _ q => RT.grow (q.weak fun b ⟨o, e⟩ q => ?_) gr, z⟩
      rcases q with q | q | q
      · exact .inl q
      · exact .inr q
      · rw [q, na] at e; cases e
    | mpu _ _ => trivial
    | «at» u => exact (wk (v := .at u) r).var
    | tup xs => exact (wk (v := .tup xs) r).var
    | rows xs => exact (wk (v := .rows xs) r).var
    | lists xs => exact (wk (v := .lists xs) r).var
  · rcases w with w | w
    · exact R.wnew b w
    · subst w; exact hsa
  · rcases w with w | w
    · exact .inl w
    · subst w; exact .inr na
theorem store_own (EF : EnvF env k) (R : FrR X hs N₀ env k.vars ρ W s.heap) (g : Kg s s') {i : Nat} {n : Str} {xs : List Int} {y : Value} (hi : k.vars[i]? = some n) (hf : free ρ i = true) (hset : setL ρ i (.own xs) = some ρ') {N : Addr → Prop} (r : RV N s'.heap (.ints xs) y) (nw : NewP s.heap s'.heap y) {Q : Unit → Shared → Prop}
    (h : ∀ W' s'', Aft X hs N₀ env k.vars W s ρ' W' s'' → Q () s'') : wpAny (model X.x.prog X.x.w) A (storeName env n y) Q E' s' := by
  obtain ⟨a, its, rfl, _, l, ia, z⟩ := r
  have l := plain_of l (nw a rfl).2
  have na := (nw a rfl).1
  have A1 := R.addW g na l
  refine stored_aft EF A1.fr hi hf hset ⟨a, its, rfl, .inr rfl, l, ia, z⟩ (fun b _ e2 j nj w _ hj hv ow va => ?_) (fun _ _ q => by cases q) fun s'' A2 => h _ s'' (A1.trans A2)
  cases e2
  have va' := VarAt.down R g.grow hj hv va
  obtain ⟨y', vb, r⟩ := R.rd.var j nj _ hj hv
  obtain ⟨b', its', e, w, o, _, eo, _⟩ := r.ow ow
  have := va'.unique vb
  rw [e] at this; cases this
  rw [na] at eo; cases eo
theorem own_move {Z : Addr → Prop} (R : FrR X hs N₀ env k.vars ρ W s.heap) {i : Nat} {n : Str} {xs xs' : List Int} {a : Addr} {its' : Array Value} {h' : Heap} (hi : k.vars[i]? = some n) (hv : ρ.at i = some (.own xs)) (va : VarAt env s.heap n (.ref a))
    (l' : PlainL h' a its') (ia : IntsAre its'.toList xs') (z : xs'.length ≤ lim) (keep : KeepZ (fun b => b = a ∨ Z b) s.heap h') (zh : ∀ b, Z b → hs b = none) (zl : ¬ Z env.locals) (zc : ∀ n c, env.cells.lookup n = some c → ¬ Z c) (zs : ∀ b o, s.heap.get? b = some o → isStore o = false → ¬ Z b)
    (zd : ∀ j nj σ mv I D L xs nm, k.vars[j]? = some nj → ρ.at j = some (.mpu σ mv) → VarAt env s.heap nj (.ref I) → Mch X hs env k.vars ρ s.heap I D L xs nm σ mv → ¬ Z D) : FrR X hs N₀ env k.vars (ρ.set i (some (.own xs'))) W h' := by
  have hlt : i < ρ.length := by rw [R.len]; exact (List.getElem?_eq_some_iff.mp hi).1
  obtain ⟨y, vb, a', its, e, w, l, i0, z0⟩ := R.rd.var i n _ hi hv
  have := va.unique vb
  rw [e] at this; cases this
  obtain ⟨oa, ea, sa, ca, na, da⟩ := list_store l.isList
  have nst : ∀ {b o}, s.heap.get? b = some o → isStore o = true → b ≠ a := fun e st q => by rw [q, ea] at e; cases e; rw [sa] at st; cases st
  have nl : ∀ m, s.heap.Ns env.locals m → ¬ (env.locals = a ∨ Z env.locals) := fun m hm q => by obtain ⟨o, eo, so⟩ := store_dict hm; rcases q with q | q; exact nst eo so q; exact zl q
  have nc : ∀ n c, env.cells.lookup n = some c → ¬ (c = a ∨ Z c) := fun n c hc q => by
    obtain ⟨_, v, hcell⟩ := R.celN n c hc
    obtain ⟨o, eo, so⟩ := store_cell hcell
    rcases q with q | q
    · exact nst eo so q
    · exact zc n c hc q
  have hl : hs a = none := R.wnew a w
  have zh' : ∀ b, (b = a ∨ Z b) → hs b = none := fun b q => by rcases q with q | q; exact q ▸ hl; exact zh b q
  have ls : ∀ {b its}, b ≠ a → PlainL s.heap b its → PlainL h' b its := fun q l => by obtain ⟨o, n, e, c, dn, d⟩ := l; exact ⟨o, n, keep _ o (fun z => by rcases z with z | z; exact q z; exact zs _ _ e (by unfold isStore; rw [d]) z) e, c, dn, d⟩
  obtain ⟨ml, nsl⟩ := R.locNs
  have nl := nl ml nsl
  have vm : ∀ nj y, VarAt env s.heap nj y → VarAt env h' nj y := fun nj y v => v.move keep nl nc
  have sq : SeqK (nn N₀ W) s.heap h' := fun b o s n e d q => keep b o (fun z => by
    rcases z with z | z
    · rw [z, ea] at e; cases e; exact q ca (.inr (z ▸ w))
    · exact zs _ _ e (by unfold isStore; rw [d]) z) e
  refine R.upd (Z := fun b => b = a ∨ Z b) i _ keep zh' ⟨ml, nsl.at' fun o e => keep _ o nl e⟩ (fun n c hc => by obtain ⟨_, v, o, e, d⟩ := R.celN n c hc; exact ⟨v, o, keep _ _ (nc n c hc) e, d⟩)
    (fun b w => ?_) (by rw [List.length_set]; exact R.len) (fun j q => LLoc.at_ne q) (fun _ nj y _ _ v => vm nj y v) (fun j nj u y q hj hu va' r => r.keepS sq fun b its ow e _ l => ?_)
    (fun j nj σ mv I D L ys nm q hj hu vI M => ?_) (fun n' u hn hu => ?_) (fun n' u b hn hu _ vb' j nj w' q hj hv' ow => ?_) (fun n' σ mv I D hn hu => by rw [LLoc.at_self hlt] at hu; cases hu)
  · by_cases q : b = a
    · subst q; exact ⟨its', l'⟩
    · obtain ⟨its2, l2⟩ := R.rd.lists b w; exact ⟨its2, ls q l2⟩
  · subst e
    exact ls (fun z => q (R.ownD j i nj n _ _ a hj hi hu hv ow rfl (z ▸ va') va)) l
  · obtain ⟨mm, ns, _⟩ := M.mr.ns
    have st : ∀ {b o}, s.heap.get? b = some o → isStore o = false → o.cls ≠ .type "list" → ¬ (b = a ∨ Z b) := fun e s c q => by
      rcases q with q | q
      · rw [q, ea] at e; cases e; exact c ca
      · exact zs _ _ e s q
    have nmeth : ∀ b f s', s.heap.get? b = some (methodObj f s') → ¬ (b = a ∨ Z b) := fun b f s' e => st e rfl (fun q => by injection q with z; exact absurd z (by decide))
    have nI : ¬ (I = a ∨ Z I) := fun q => by
      rcases q with q | q
      · have e : s.heap.get? I = _ := M.mr.inst
        rw [q, ea] at e; cases e; cases da
      · exact zs _ _ M.mr.inst rfl q
    have nD : ¬ (D = a ∨ Z D) := fun q => by
      rcases q with q | q
      · obtain ⟨o, eo, so⟩ := store_dict ns.ns; exact nst eo so q
      · exact zd j nj σ mv I D L ys nm hj hu vI M q
    have n0 : ∀ b o, X.x.h₀.get? b = some o → ¬ (b = a ∨ Z b) := fun b o e q => by have := R.up b o e; rw [zh' b q] at this; cases this
    by_cases q2 : mv = i
    · subst q2
      have := M.own; rw [hv] at this; cases this
      have := M.nam; rw [hi] at this; cases this
      cases va.unique M.vL
      exact ⟨xs', LLoc.at_self hlt, hi, vm _ _ M.vL, M.mr.move keep n0 nI nD nmeth l' ia (Nat.lt_of_le_of_lt z (by decide)), M.hD, M.d0, M.l0, M.Dl⟩
    · obtain ⟨itL, lL, iL⟩ := M.mr.mem
      exact ⟨ys, by rw [LLoc.at_ne q2]; exact M.own, M.nam, vm _ _ M.vL, M.mr.move keep n0 nI nD nmeth (ls (fun z => q2 (R.ownD mv i nm n _ _ a M.nam hi M.own hv rfl rfl (z ▸ M.vL) va)) lL) iL M.mr.sz, M.hD, M.d0, M.l0, M.Dl⟩
  · rw [hi] at hn; cases hn
    rw [LLoc.at_self hlt] at hu; cases hu
    exact ⟨⟨.ref a, vm _ _ va, a, its', rfl, w, l', ia, z⟩, fun _ _ e => nomatch e⟩
  · rw [hi] at hn; cases hn
    cases (vm _ _ va).unique vb'
    exact fun v => q (R.ownD j i nj n _ _ a hj hi hv' hv ow rfl v va)
theorem own_upd (R : FrR X hs N₀ env k.vars ρ W s.heap) (EF : EnvF env k) {i : Nat} {n : Str} {xs xs' : List Int} {a : Addr} {its' : Array Value} {h' : Heap} {t' : Nat} (hi : k.vars[i]? = some n) (hv : ρ.at i = some (.own xs)) (va : VarAt env s.heap n (.ref a))
    (l' : PlainL h' a its') (ia : IntsAre its'.toList xs') (z : xs'.length ≤ lim) (sb : Heap.SameBut a s.heap h') (hset : setL ρ i (.own xs') = some ρ') : Aft X hs N₀ env k.vars W s ρ' W { s with heap := h', toks := t' } := by
  obtain ⟨hlt, rfl⟩ := setL_of hset
  obtain ⟨y, vb, a', its, e, w, l, _⟩ := R.rd.var i n _ hi hv
  have := va.unique vb
  rw [e] at this; cases this
  have keep : ∀ b o, b ≠ a → s.heap.get? b = some o → h'.get? b = some o := fun b o q e => by rw [sb.2 b q]; exact e
  refine ⟨own_move (Z := fun _ => False) R hi hv va l' ia z (fun b o q => keep b o fun z => q (.inl z)) (fun _ q => q.elim) (fun q => q) (fun _ _ _ q => q) (fun _ _ _ _ q => q) (fun _ _ _ _ _ _ _ _ _ _ _ _ _ q => q), fun _ w => .inl w, fun b o e n _ => keep b o (fun q => n (q ▸ w)) e, fun b o e => ?_, ⟨h', t', rfl⟩⟩
  by_cases q : b = a
  · subst q; obtain ⟨o', _, e', _⟩ := l'; exact ⟨o', e'⟩
  · exact ⟨o, keep b o q e⟩
end
end Mine

end
section
open PySem PySem.W PyProof.Rows
set_option maxRecDepth 100000
set_option maxHeartbeats 1000000
set_option linter.unusedSimpArgs false
set_option linter.unusedVariables false
set_option linter.unusedSectionVars false
namespace Mine
section
variable {X : LX} {hs : Addr → Option Obj} {N₀ : Addr → Prop} {env : Env} {k : LC} {ρ ρ' ρ'' : LLoc} {W W' W'' : Addr → Prop} {s s' s'' : Shared} {A : Around} {E' : Value → Shared → Prop}
end
end Mine

end
section
open PySem PySem.W PyProof.Rows
set_option maxRecDepth 100000
set_option maxHeartbeats 1000000
set_option linter.unusedSimpArgs false
set_option linter.unusedVariables false
set_option linter.unusedSectionVars false
namespace Mine
section
variable {X : LX} {A : Around} {cf : Nat → List LV → Option LV} {k : LC} {env : Env} {hs : Addr → Option Obj} {N₀ : Addr → Prop}
theorem tgs_cons {v : Nat} {vs : List Nat} {l : List PySem.Expr} (h : trTgs k (v :: vs) l = true) : ∃ n p l', l = .Name n p :: l' ∧ k.isVar v n = true ∧ trTgs k vs l' = true := by
  apply o_cons_elim h; intro x l h
  apply o_Name_elim h; intro n p h
  refine and_el h fun h1 h2 => ?_
  exact ⟨_, _, _, rfl, h1, h2⟩
theorem tgs_nil {l : List PySem.Expr} (h : trTgs k [] l = true) : l = [] := List.isEmpty_iff.mp h
theorem each_len {F : List FnD} (vs : List Nat) : ∀ {l : List PySem.Expr}, trTgs k vs l = true → (assignEach l env).length = vs.length ∧ (assignEach l env).findIdx? (·.1) = none := by
  induction vs with
  | nil => intro l h; rw [tgs_nil h]; exact ⟨rfl, rfl⟩
  | cons v vs ih =>
    intro l h
    obtain ⟨n, p, l', rfl, h1, h2⟩ := tgs_cons h
    obtain ⟨a, b⟩ := ih h2
    refine ⟨?_, ?_⟩
    · show ((false, assign (.Name n p) env) :: assignEach l' env).length = _
      rw [List.length_cons, a]; rfl
    · show ((false, assign (.Name n p) env) :: assignEach l' env).findIdx? (·.1) = none
      rw [List.findIdx?_cons, b]; rfl
theorem assign_names (EF : EnvF env k) (vs : List Nat) : ∀ (l : List PySem.Expr) (xs : List At) (ys : List Value) (ρ ρ' : LLoc) (W : Addr → Prop) (s : Shared) (Q : Unit → Shared → Prop) (E' : Value → Shared → Prop), trTgs k vs l = true → bindTs vs xs ρ = some ρ' → FrR X hs N₀ env k.vars ρ W s.heap →
    Paired (RA (nn N₀ W) s.heap) xs ys → (∀ s', Aft X hs N₀ env k.vars W s ρ' W s' → Q () s') → wpAny (model X.x.prog X.x.w) A (assignInOrder ((assignEach l env).map (·.2)) ys) Q E' s := by
  induction vs with
  | nil =>
    intro l xs ys ρ ρ' W s Q E' ht hb R pr h
    cases tgs_nil ht
    cases pr with
    | nil => cases hb; exact wpAny_pure (h s (.refl R))
    | cons _ _ => cases hb
  | cons v vs ih =>
    intro l xs ys ρ ρ' W s Q E' ht hb R pr h
    obtain ⟨n, p, l', rfl, h1, h2⟩ := tgs_cons ht
    cases pr with
    | nil => cases hb
    | cons r pr =>
      rename_i x y xs ys
      refine bind_el hb fun ρ₁ hp hb => ?_
      show wpAny _ A (do holding ys (assign (.Name n p) env y); assignInOrder ((assignEach l' env).map (·.2)) ys) Q E' s
      refine wpAny_bind (wpAny_holding (wpAny_assign_Name (store_val EF R (isVarL_of h1) hp (v := .at x) r fun s₁ a₁ => ?_)))
      exact ih l' xs ys ρ₁ ρ' W s₁ Q E' h2 hb a₁.fr (pr.mono fun u y q => a₁.val R (v := .at u) q) fun s' a₂ => h s' (a₁.trans a₂)
theorem ext_kg {s : Shared} {h' : Heap} (e : Heap.ExtBut s.heap.objs.size s.heap h') : Kg s { s with heap := h' } := ⟨h', s.toks, rfl, fun b o q => e b o (Nat.ne_of_lt (Heap.lt_size q)) q⟩
theorem bindTs_len : ∀ (vs : List Nat) (xs : List At) {ρ ρ' : LLoc}, bindTs vs xs ρ = some ρ' → vs.length = xs.length
  | [], [], _, _, _ => rfl
  | v :: vs, x :: xs, _, _, h => by
    refine bind_el h fun _ _ h => ?_
    exact congrArg (· + 1) (bindTs_len vs xs h)
  | [], _ :: _, _, _, h => nomatch h
  | _ :: _, [], _, _, h => nomatch h
theorem bind_ok (hh : A.handled = none) (EF : EnvF env k) {tg : LTg} {t : PySem.Expr} {x : LV} {y : Value} {ρ ρ' : LLoc} {W : Addr → Prop} {s : Shared} {Q : Unit → Shared → Prop} {E' : Value → Shared → Prop} (ht : trTg k tg t = true) (hb : bindTg tg x ρ = some ρ') (R : FrR X hs N₀ env k.vars ρ W s.heap)
    (r : RV (nn N₀ W) s.heap x y) (h : ∀ s', Aft X hs N₀ env k.vars W s ρ' W s' → Q () s') : wpAny (model X.x.prog X.x.w) A (assign t env y) Q E' s := by
  cases tg with
  | one v =>
    apply o_Name_elim ht; intro n p ht
    exact wpAny_assign_Name (store_val EF R (isVarL_of ht) hb r h)
  | many vs =>
    apply o_Tuple_elim ht; intro l _ _ ht
    refine and_el ht fun h1 h2 => ?_
    refine bind_el hb fun xs hx hb => ?_
    cases LV.tup?_of hx
    obtain ⟨a, its, rfl, l, p⟩ := r
    obtain ⟨e1, e2⟩ := each_len (F := X.F) (env := env) _ h1
    refine wpAny_assign_Tuple hh l (by rw [e1, bindTs_len _ _ hb, p.length, Array.length_toList]) e2 fun h' ex => ?_
    have kg := ext_kg ex
    exact assign_names EF _ _ _ _ _ _ W _ Q E' h1 hb (R.grow kg.grow) (p.mono fun u y q => q.grow kg.grow) fun s' a => h s' ((Aft.of_kg R kg).trans a)
end
end Mine

end
section
open PySem PySem.W PyProof.Rows
set_option maxRecDepth 100000
set_option maxHeartbeats 1000000
set_option linter.unusedSimpArgs false
set_option linter.unusedVariables false
set_option linter.unusedSectionVars false
namespace Mine
section
variable {X : LX} {A : Around} {cf : Nat → List LV → Option LV} {k : LC} {env : Env} {hs : Addr → Option Obj} {N₀ : Addr → Prop}
theorem FrR.offI {hs : Addr → Option Obj} {N₀ : Addr → Prop} {env : Env} {vars : List Str} {ρ : LLoc} {W : Addr → Prop} {h h' : Heap} {I : Addr} (R : FrR X hs N₀ env vars ρ W h) (keep : ∀ b o, b ≠ I → h.get? b = some o → h'.get? b = some o)
    (kI : ∃ o vs, h.get? I = some o ∧ o.data = .fields vs ∧ o.cls ≠ .type "method") (hI : hs I = none) : FrR X hs N₀ env vars ρ W h' := by
  obtain ⟨oI, vs, eI, dI, cI⟩ := kI
  have ne : ∀ {b : Addr} {o : Obj}, h.get? b = some o → (∀ vs, o.data ≠ .fields vs) → b ≠ I := fun e d q => by rw [q, eI] at e; cases e; exact d vs dI
  refine R.same (Z := fun b => b = I) keep (fun b q => q ▸ hI) ?_ (fun n c hc => ?_) (fun b o a n e d => ne e fun vs q => by rw [d] at q; cases q) (fun b f s e q => by rw [q, eI] at e; cases e; exact cI rfl) (fun b C D e => ne e fun vs q => nomatch q) (fun b m n => ?_)
  · obtain ⟨m, o, es, ep, e, d, _⟩ := R.locNs
    exact ne e fun vs q => by rw [d] at q; cases q
  · obtain ⟨_, v, o, e, d⟩ := R.celN n c hc
    exact ne e fun vs q => by rw [d] at q; cases q
  · obtain ⟨o, es, ep, e, d, _⟩ := n
    exact ne e fun vs q => by rw [d] at q; cases q
structure CompT (tg : List Str) (sc : Scope) : Prop where
  kind : sc.kind = .function
  dbg : ∀ n ∈ tg, (n == ("__debug__" : Str)) = false
  loc : ∀ n ∈ tg, sc.names.lookup n = some .local
  nd : tg.Nodup
  cell : ∀ y ∈ sc.names, y.2 ≠ .cell
  free : ∀ y ∈ sc.names, y.2 ≠ .free
  locs : ∀ y ∈ sc.names, y.2 = .local → sc.names.lookup y.1 = some .local
theorem CompT.names {tg : List Str} {sc : Scope} (C : CompT tg sc) (env : Env) : (relabel sc env).names = sc.names := by
  show sc.names.map _ = _
  refine (List.map_congr_left fun y hy => ?_).trans (List.map_id _)
  obtain ⟨n, kd⟩ := y
  have : (kd == NameKind.free) = false := beq_eq_false_iff_ne.mpr (C.free _ hy)
  show (if (kd == NameKind.free && _ && _) = true then _ else _) = _
  rw [this]
  rfl
end
end Mine

end
section
open PySem PySem.W PyProof.Rows
set_option maxRecDepth 100000
set_option maxHeartbeats 1000000
set_option linter.unusedSimpArgs false
set_option linter.unusedVariables false
set_option linter.unusedSectionVars false
namespace Mine
section
variable {X : LX} {A : Around} {cf : Nat → List LV → Option LV}
noncomputable def rowF (cf : Nat → List LV → Option LV) (tg : List Str) (elts : LEs) (it : LV) : Option (List At) := it.tup?.bind fun xs => (bindTs (List.range tg.length) xs (List.replicate tg.length none)).bind fun ρ' => (evLs cf elts ρ').bind fun vs => if vs.length ≤ lim then mapO asAt vs else none
noncomputable def CI (X : LX) (N : Addr → Prop) (cenv : Env) (tg : List Str) (hp : Heap) (D : Addr) (St : Nat → Heap → Prop) (rs : List (List At)) (m : Nat) (s₂ : Shared) (n : Nat) (s : Shared) : Prop :=
  ∃ i ρ ys, i ≤ m ∧ n = m - i ∧ FrR X (fun b => hp.get? b) N cenv tg ρ (fun b => b = D) s.heap ∧ St i s.heap ∧ PlainL s.heap D ys ∧ Paired (RT (nn N fun b => b = D) s.heap) (rs.take i) ys.toList ∧ Ks s₂ s
end
end Mine

end
section
open PySem PySem.W PyProof.Rows
set_option maxRecDepth 100000
set_option maxHeartbeats 1000000
set_option linter.unusedSimpArgs false
set_option linter.unusedVariables false
namespace Mine
section
variable {X : LX} {A : Around} {cf : Nat → List LV → Option LV}
theorem g_nil : GoodEs X A cf .nil := by
  intro k env ρ hs N₀ W l vs pos ht he EL KO hl s Q E' R h
  cases l with
  | nil => cases he; exact args_nil (h _ s .nil .refl)
  | cons _ _ => cases ht
theorem g_cons {e : LE} {r : LEs} (ge : GoodE X A cf e) (gr : GoodEs X A cf r) : GoodEs X A cf (.cons e r) := by
  intro k env ρ hs N₀ W l vs pos ht he EL KO hl s Q E' R h
  cases l with
  | nil => cases ht
  | cons x l =>
    refine and_el ht fun ht hr => ?_
    refine and_el ht fun hp hx => ?_
    refine bind_el he fun v hv he => ?_
    obtain ⟨vs', hvs, e⟩ := map_of he
    cases e
    refine args_cons (ge k env ρ hs N₀ W _ v hx hv EL KO hl s _ _ R fun y s₁ ry k₁ => gr k env ρ hs N₀ W l vs' pos hr hvs EL KO hl s₁ _ _ (R.grow k₁.grow) fun ys s₂ p k₂ => ?_) (plainL_star hp env l)
    exact h _ s₂ (.cons (fl_true (ry.grow k₂.grow) fun q => (Bool.and_eq_true_iff.mp q).1) (p.mono fun _ _ q => fl_true q fun z => (Bool.and_eq_true_iff.mp z).2)) (k₁.trans k₂)
noncomputable def plainX : PySem.Expr → Bool
  | .Name .. => true | .Constant .. => true | .BinOp .. => true | .Subscript .. => true | .Call .. => true | .List .. => true | .Tuple .. => true | .Attribute .. => true | .ListComp .. => true
  | .UnaryOp .USub _ _ => true
  | _ => false
theorem plainX_is {ex : PySem.Expr} {env : Env} (h : plainX ex = true) : isTrue ex env (eval ex env) = (do let v ← eval ex env; standAt ex.pos; holding [v] (truthy v)) := by
  cases ex with
  | UnaryOp o _ _ => cases o <;> first | rfl | cases h
  | _ => first | rfl | cases h

variable (OK : LOk X) {d : Nat} (ao : AOk A d) (hcf : CallLOk X A cf)
theorem ET {e : LE} (g : GoodE X A cf e) (h : ∀ k ex, trL X.F k e ex = true → plainX ex = true) : GoodE X A cf e ∧ GoodT X A cf e := ⟨g, goodT_of g fun k ex _ ht => plainX_is (h k ex ht)⟩
include OK ao hcf
mutual
theorem sound_L : ∀ e : LE, GoodE X A cf e ∧ GoodT X A cf e
  | .int i => ET (g_int i) (fun k ex ht => by refine inv_trL_int ht fun _ _ _ hx₀ ht => ?_; subst hx₀; rfl)
  | .bool b => ET (g_bool b) (fun k ex ht => by refine inv_trL_bool ht fun _ _ _ hx₀ ht => ?_; subst hx₀; rfl)
  | .none => ET g_none (fun k ex ht => by refine inv_trL_none ht fun _ _ hx₀ ht => ?_; subst hx₀; rfl)
  | .var v => ET (g_var v) (fun k ex ht => by refine inv_trL_var ht fun _ _ hx₀ ht => ?_; subst hx₀; rfl)
  | .own v => ET (g_own v) (fun k ex ht => by refine inv_trL_own ht fun _ _ hx₀ ht => ?_; subst hx₀; rfl)
  | .bin op a b => ET (g_bin (sound_L a).1 (sound_L b).1).toE (fun k ex ht => by refine inv_trL_bin ht fun _ _ _ _ hx₀ ht => ?_; subst hx₀; rfl)
  | .cmp op a b => g_cmp (by have := ao.un; lia) (sound_L a).1 (sound_L b).1
  | .and a b => g_and (sound_L a).1 (sound_L b).1 (sound_L a).2 (sound_L b).2
  | .or a b => g_or (sound_L a).1 (sound_L b).1 (sound_L a).2 (sound_L b).2
  | .not a => g_not (sound_L a).1 (sound_L a).2
  | .idx a i => ET (g_idx (sound_L a).1 (sound_L i).1) (fun k ex ht => by refine inv_trL_idx ht fun _ _ _ hx₀ ht => ?_; subst hx₀; rfl)
  | .slc a lo hi => ET (g_slc (sound_L a).1 (sound_L lo).1 (sound_L hi).1).toE (fun k ex ht => by refine inv_trL_slc ht fun _ _ _ _ _ _ hx₀ ht => ?_; subst hx₀; rfl)
  | .len a => ET (g_len OK (sound_L a).1) (fun k ex ht => by refine inv_trL_len ht fun _ _ _ _ hx₀ ht => ?_; subst hx₀; rfl)
  | .sorted a => ET (g_sorted OK (sound_L a).1) (fun k ex ht => by refine inv_trL_sorted ht fun _ _ _ _ hx₀ ht => ?_; subst hx₀; rfl)
  | .disp es => ET (g_disp (sound_Ls es)).toE (fun k ex ht => by refine inv_trL_disp ht fun _ _ hx₀ ht => ?_; subst hx₀; rfl)
  | .tup es => ET (g_tup (sound_Ls es)) (fun k ex ht => by refine inv_trL_tup ht fun _ _ _ hx₀ ht => ?_; subst hx₀; rfl)
  | .attr v f => ET (g_attr OK v f) (fun k ex ht => by refine inv_trL_attr ht fun _ _ _ _ hx₀ ht => ?_; subst hx₀; rfl)
  | .call f es => ET (g_call OK hcf (sound_Ls es)) (fun k ex ht => by refine inv_trL_call ht fun _ _ _ _ hx₀ ht => ?_; subst hx₀; rfl)
  | .comp elt caps src => ET (g_comp (sound_L elt).1 (sound_Src src)) (fun k ex ht => by refine inv_trL_comp ht fun _ _ _ _ _ _ _ _ hx₀ ht => ?_; subst hx₀; rfl)
theorem sound_Ls : ∀ es : LEs, GoodEs X A cf es
  | .nil => g_nil
  | .cons e r => g_cons (sound_L e).1 (sound_Ls r)
theorem sound_Src : ∀ src : LSrc, GoodS X A cf src
  | .rng e => g_rng OK ao.hh (sound_L e).1
  | .lst e => g_lst ao.hh (sound_L e).1
end
theorem sound_F : ∀ e : LE, freshE e = true → GoodF X A cf e
  | .bin op a b, _ => g_bin (sound_L OK ao hcf a).1 (sound_L OK ao hcf b).1
  | .slc a lo hi, _ => g_slc (sound_L OK ao hcf a).1 (sound_L OK ao hcf lo).1 (sound_L OK ao hcf hi).1
  | .disp es, _ => g_disp (sound_Ls OK ao hcf es)
  | .int i, h => by cases h
  | .bool b, h => by cases h
  | .none, h => by cases h
  | .var v, h => by cases h
  | .own v, h => by cases h
  | .cmp op a b, h => by cases h
  | .and a b, h => by cases h
  | .or a b, h => by cases h
  | .not a, h => by cases h
  | .idx a i, h => by cases h
  | .len a, h => by cases h
  | .sorted a, h => by cases h
  | .tup es, h => by cases h
  | .attr v f, h => by cases h
  | .call f es, h => by cases h
  | .comp elt caps src, h => by cases h
end
end Mine

end
section
open PySem PySem.W PyProof.Rows
set_option maxRecDepth 100000
set_option maxHeartbeats 1000000
set_option linter.unusedSimpArgs false
set_option linter.unusedVariables false
namespace Mine
section
variable {X : LX} {hs : Addr → Option Obj} {N₀ : Addr → Prop} {env : Env} {k : LC} {ρ ρ' ρ'' : LLoc} {W W' W'' : Addr → Prop} {s s' s'' : Shared} {A : Around} {E' : Value → Shared → Prop} {h : Heap}
theorem FrR.put (R : FrR X hs N₀ env k.vars ρ W h) (v : Nat) (o : Option LV) {n : Str} (hn : k.vars[v]? = some n) (hv : ∀ xs, ρ.at v ≠ some (.own xs)) (no : ∀ u, o = some u → Ow u = false)
    (hm : ∀ u, o = some u → ∃ σ mv y, u = .mpu σ mv ∧ VarAt env h n y ∧ NewMach X hs env k.vars ρ h v y σ mv) : FrR X hs N₀ env k.vars (ρ.set v o) W h := by
  have hlt : v < ρ.length := by rw [R.len]; exact (List.getElem?_eq_some_iff.mp hn).1
  have mo : ∀ {I D L xs nm σ mv}, Mch X hs env k.vars ρ h I D L xs nm σ mv → Mch X hs env k.vars (ρ.set v o) h I D L xs nm σ mv := fun M => ⟨by rw [LLoc.at_ne fun q => hv _ (q ▸ M.own)]; exact M.own, M.nam, M.vL, M.mr, M.hD, M.d0, M.l0, M.Dl⟩
  refine R.upd (Z := fun _ => False) v _ (fun b o _ e => e) (fun _ q => q.elim) R.locNs (fun n c hc => (R.celN n c hc).2) R.rd.lists (by rw [List.length_set]; exact R.len) (fun j q => LLoc.at_ne q) (fun _ _ _ _ _ v => v) (fun _ _ _ _ _ _ _ _ r => r)
    (fun j nj σ mv I D L xs nm _ _ _ _ M => ⟨xs, mo M⟩) (fun n' u hn' hu => ?_) (fun n' u a hn' hu ow => absurd ow (by rw [no u ((LLoc.at_self hlt).symm.trans hu)]; exact Bool.false_ne_true)) (fun n' σ mv I D hn' hu va e => ?_)
  all_goals (rw [hn] at hn'; cases hn'; rw [LLoc.at_self hlt] at hu)
  · obtain ⟨σ, mv, y, rfl, va, _, I, D, L, xs, nm, rfl, M, _⟩ := hm u hu
    exact ⟨⟨_, va, trivial⟩, fun σ' mv' e => by cases e; exact ⟨I, D, L, xs, nm, va, mo M⟩⟩
  · obtain ⟨σ', mv', y, e', va', _, I', D', L, xs, nm, rfl, M, no'⟩ := hm _ hu
    cases e'
    cases va.unique va'
    have e2 : h.get? I = some (instObj X.x.C D') := M.mr.inst
    rw [e2] at e
    obtain rfl : D' = D := by injection e with e; injection e with _ e; injection e
    exact no'
theorem Mr.parts {x : Cx} {σ : M} (m : Mr x σ h) : ∃ o es ep, h.get? x.D = some o ∧ isStore o = true ∧ o.data = .dict es ep := by
  obtain ⟨mm, n, _⟩ := m.ns
  obtain ⟨o, es, ep, e, d, _⟩ := n.ns
  exact ⟨o, es, ep, e, by unfold isStore; rw [d], d⟩
theorem small_at (OK : LOk X) (I D L : Addr) : Small (X.at I D L) := ⟨OK.sm.tab, OK.sm.ins⟩
theorem kp_aft (R : FrR X hs N₀ env k.vars ρ W s.heap) {σ' : M} {mv : Nat} {nm : Str} {xs : List Int} {I D L : Addr} (hi : k.vars[mv]? = some nm) (hv : ρ.at mv = some (.own xs)) (va : VarAt env s.heap nm (.ref L)) (hD : hs D = none) {oD : Obj} {es : Array DictEntry} {ep : Nat} (eD : s.heap.get? D = some oD) (dD : oD.data = .dict es ep) (lD : D ≠ env.locals)
    (kp : Kp [D, L] s s') (M' : Mr (X.at I D L) σ' s'.heap) (z : σ'.mem.length ≤ lim) (hd : ∀ j nj σ mv I' D' L' xs nm, k.vars[j]? = some nj → ρ.at j = some (.mpu σ mv) → VarAt env s.heap nj (.ref I') → Mch X hs env k.vars ρ s.heap I' D' L' xs nm σ mv → D' ≠ D) :
    Aft X hs N₀ env k.vars W s (ρ.set mv (some (.own σ'.mem))) W s' ∧ ∀ n y, VarAt env s.heap n y → VarAt env s'.heap n y := by
  obtain ⟨y, vb, a', its, e, w, l, i0, z0⟩ := R.rd.var mv nm _ hi hv
  have := va.unique vb
  rw [e] at this; cases this
  obtain ⟨its', l', ia⟩ := M'.mem
  obtain ⟨oD', _, _, eD', _⟩ := M'.parts
  obtain ⟨h', t', rfl, aw⟩ := kp
  have keep : KeepZ (fun b => b = L ∨ b = D) s.heap h' := fun b o q e => aw b o e (by simp only [List.mem_cons, List.not_mem_nil, or_false]; exact fun z => q z.symm)
  have cD : ∀ n c, env.cells.lookup n = some c → c ≠ D := fun n c hc q => by
    obtain ⟨_, v, o1, e1, d1⟩ := R.celN n c hc
    rw [q, eD] at e1; cases e1; rw [dD] at d1; cases d1
  have sD : isStore oD = true := by unfold isStore; rw [dD]
  have zs : ∀ b o, s.heap.get? b = some o → isStore o = false → b ≠ D := fun b o e st q => by rw [q, eD] at e; cases e; rw [sD] at st; cases st
  obtain ⟨oa, ea, sa, _⟩ := list_store l.isList
  have nst : ∀ {b o}, s.heap.get? b = some o → isStore o = true → b ≠ L := fun e st q => by rw [q, ea] at e; cases e; rw [sa] at st; cases st
  refine ⟨⟨own_move (Z := fun b => b = D) R hi hv va l' ia z keep (fun b q => q ▸ hD) (Ne.symm lD) cD zs hd, fun _ w => .inl w, fun b o e n st => keep b o (fun q => by rcases q with q | q; exact n (q ▸ w); exact zs b o e st q) e, fun b o e => ?_, ⟨h', t', rfl⟩⟩, fun n y v => v.move keep (fun q => ?_) fun n c hc q => ?_⟩
  · by_cases q : b = L
    · subst q; obtain ⟨o', _, e', _⟩ := l'; exact ⟨o', e'⟩
    · by_cases q2 : b = D
      · exact ⟨oD', q2 ▸ eD'⟩
      · exact ⟨o, keep b o (fun z => by rcases z with z | z; exact q z; exact q2 z) e⟩
  · obtain ⟨m, ns⟩ := R.locNs
    obtain ⟨o, eo, so⟩ := store_dict ns
    rcases q with q | q
    · exact nst eo so q
    · exact lD q.symm
  · obtain ⟨_, v, hcell⟩ := R.celN n c hc
    obtain ⟨o, eo, so⟩ := store_cell hcell
    rcases q with q | q
    · exact nst eo so q
    · exact cD n c hc q
theorem at_unset {v j : Nat} {x : LV} (q : LLoc.at (ρ.set v none) j = some x) : j ≠ v ∧ ρ.at j = some x := by
  by_cases e : j = v
  · subst e
    unfold LLoc.at at q
    rw [List.getElem?_set, if_pos rfl] at q
    split at q <;> cases q
  · rw [LLoc.at_ne e] at q
    exact ⟨e, q⟩
theorem mach_aft (R : FrR X hs N₀ env k.vars ρ W s.heap) {v mv : Nat} {n nm : Str} {σ σ' : M} {xs : List Int} {I D L : Addr} (hn : k.vars[v]? = some n) (hv : ρ.at v = some (.mpu σ mv)) (va : VarAt env s.heap n (.ref I)) (M : Mch X hs env k.vars ρ s.heap I D L xs nm σ mv) (M' : Mr (X.at I D L) σ' s'.heap) (kp : Kp [D, L] s s') (hz : σ'.mem.length ≤ lim)
    (hb : backL ρ v mv σ' = some ρ') : Aft X hs N₀ env k.vars W s ρ' W s' := by
  refine bind_el hb fun ρ₁ hset1 hset2 => ?_
  obtain ⟨hlt1, rfl⟩ := setL_of hset1
  obtain ⟨hlt2, rfl⟩ := setL_of hset2
  have hvm : mv ≠ v := fun q => by have := M.own; rw [q, hv] at this; cases this
  obtain ⟨oD, es, ep, eD, _, dD⟩ := M.mr.parts
  have F0 := R.put v none hn (fun xs q => by rw [hv] at q; cases q) (fun _ q => nomatch q) (fun _ q => nomatch q)
  obtain ⟨A1, vm⟩ := kp_aft F0 M.nam (by rw [LLoc.at_ne hvm]; exact M.own) M.vL M.hD eD dD M.Dl kp M' hz fun j nj τ m I' D' L' xs' nm' hj hu vI M2 q => by
    obtain ⟨qj, hu⟩ := at_unset hu
    have e1 : s.heap.get? I' = some (instObj X.x.C D') := M2.mr.inst
    exact qj (R.mchD j v nj n τ σ m mv I' I D hj hn hu hv vI va (q ▸ e1) M.mr.inst)
  have eq : ((ρ.set v none).set mv (some (.own σ'.mem))).set v (some (.mpu { σ' with mem := [] } mv)) = (ρ.set mv (some (.own σ'.mem))).set v (some (.mpu { σ' with mem := [] } mv)) := by rw [List.set_comm none _ (Ne.symm hvm), List.set_set]
  have atv : LLoc.at ((ρ.set v none).set mv (some (.own σ'.mem))) v = none := by
    rw [LLoc.at_ne (Ne.symm hvm)]
    cases q : LLoc.at (ρ.set v none) v with
    | none => rfl
    | some _ => exact absurd rfl (at_unset q).1
  refine ⟨eq ▸ A1.fr.put v _ hn (fun xs q => by rw [atv] at q; cases q) (fun _ q => by cases q; rfl) fun u e => ?_, A1.new, A1.evo, A1.live, A1.ks⟩
  cases e
  refine ⟨_, _, _, rfl, vm _ _ va, hvm, I, D, L, σ'.mem, nm, rfl, ⟨LLoc.at_self (by rw [List.length_set]; exact hlt1), M.nam, vm _ _ M.vL, M', M.hD, M.d0, M.l0, M.Dl⟩, fun j nj τ m J qj hj hu vJ e => ?_⟩
  obtain ⟨J', D', L', ys, nm', vJ', M2⟩ := A1.fr.rd.mach j nj τ m hj hu
  cases vJ.unique vJ'
  have e2 : s'.heap.get? J = some (instObj X.x.C D') := M2.mr.inst
  rw [e2] at e
  obtain rfl : D' = D := by injection e with e; injection e with _ e; injection e
  by_cases qm : j = mv
  · subst qm; rw [LLoc.at_self (by rw [List.length_set]; exact hlt1)] at hu; cases hu
  rw [LLoc.at_ne qm] at hu
  obtain ⟨_, hu⟩ := at_unset hu
  obtain ⟨J2, D2, L2, zs, nm2, vJ2, M3⟩ := R.rd.mach j nj τ m hj hu
  cases (vm _ _ vJ2).unique vJ
  have e3 : s.heap.get? J = some (instObj X.x.C D2) := M3.mr.inst
  have e4 : s'.heap.get? J = some (instObj X.x.C D2) := by
    obtain ⟨h', t', rfl, aw⟩ := kp
    refine aw _ _ e3 fun q => ?_
    rcases List.mem_cons.mp q with q | q
    · rw [q] at e3; rw [show s.heap.get? D' = some oD from eD] at e3; cases e3; cases dD
    · obtain ⟨its, ⟨o, _, eo, _, _, d⟩, _⟩ := M.mr.mem
      have eo : s.heap.get? L = some o := eo
      rw [List.mem_singleton.mp q, eo] at e3; cases e3; cases d
  rw [e2] at e4
  obtain rfl : D' = D2 := by injection e4 with e; injection e with _ e; injection e
  exact qj (R.mchD j v nj n τ σ m mv J I D' hj hn hu hv vJ2 va e3 M.mr.inst)
theorem mach_call (OK : LOk X) (EF : EnvF env k) {d : Nat} (ao : AOk A (d + deep)) (R : FrR X hs N₀ env k.vars ρ W s.heap) {v m : Nat} {n : Str} {md : MethD} {bp ap p : Pos} (hn : k.vars[v]? = some n) (hmd : X.x.c.P[m]? = some md) (hl : ap.endLine = p.line) (hs' : stepL X.x.c ρ v m = some ρ')
    {Q : Value → Shared → Prop} (h : ∀ y s', Aft X hs N₀ env k.vars W s ρ' W s' → Q y s') : wpAny (model X.x.prog X.x.w) A (eval (.Call (.Attribute (.Name n bp) md.nm ap) [] [] p) env) Q E' s := by
  obtain ⟨u, hv, hs'⟩ := bind_of hs'
  obtain ⟨⟨σ, mv⟩, hu, hs'⟩ := bind_of hs'
  obtain ⟨w, hw, hs'⟩ := bind_of hs'
  obtain ⟨xs, hxs, hs'⟩ := bind_of hs'
  obtain ⟨⟨r, σ'⟩, hc, hs'⟩ := bind_of hs'
  obtain ⟨hz, hb⟩ := cond_of hs'
  clear hs'
  cases LV.mpu?_of hu
  cases LV.own?_of hxs
  obtain ⟨I, D, L, xs', nm, va, M⟩ := R.rd.mach v n σ mv hn hv
  cases hw.symm.trans M.own
  have O := OK.ok I D L M.d0 M.l0 M.mr.apart
  show wpAny _ _ (eval (.Name n bp) env >>= fun ov => standAt ap.atName >>= fun _ => methodCall (.Name n bp) md.nm ap p env ov 0 (backTo p (starEach [] env)) []) _ _ _
  refine wpAny_bind (load_at EF.el hn va (wpAny_bind (wpAny_standAt ?_)))
  unfold methodCall calleeOf methodCallPos
  rw [show methodCallForm 0 (backTo p (starEach [] env)) [] = true from rfl]
  have q : (ap.endLine == p.line) = true := by rw [hl]; exact beq_self_eq_true _
  simp only [if_true, Bool.not_true, Bool.false_or, q]
  refine wpAny_bind (wpAny_holding (meth_of (x := X.at I D L) O M.mr hmd (wpAny_bind (wpAny_pure ?_))))
  obtain ⟨fd, _, hk, _⟩ := (O.meth m md hmd).fd
  exact callWith_meth0 rfl (M.mr.stays _ _ (O.X _ _ hk)) (wpAny_call ((sound_call O (small_at OK I D L) deep A (by have := ao.dp; lia)).ok m [] _ r σ' hc s [] _ M.mr .nil fun y s' M' _ kp => h y s' (mach_aft R hn hv va M M' kp (Nat.le_of_ble_eq_true hz) hb)))
end
end Mine

end
section
open PySem PySem.W PyProof.Rows
set_option maxRecDepth 100000
set_option maxHeartbeats 1000000
set_option linter.unusedSimpArgs false
set_option linter.unusedVariables false
namespace Mine
section
variable {X : LX} {hs : Addr → Option Obj} {N₀ : Addr → Prop} {env : Env} {k : LC} {ρ ρ' ρ'' : LLoc} {W W' W'' : Addr → Prop} {s s' s'' : Shared} {A : Around} {E' : Value → Shared → Prop} {h : Heap} {cf : Nat → List LV → Option LV}
theorem weight_tc (C : Addr) (rest : List Value) (kw : List (Str × Value)) : (Code.builtin "type.__call__" ⟨.ref C :: rest, kw⟩).weight ≤ 1 := by
  have g : (Code.builtin "type.__call__" ⟨.ref C :: rest, kw⟩).weight = 1 := by
    first | rfl | kernel_rfl
  rw [g]; exact Nat.le_refl _
theorem toV_rp {x : Cx} {N : Addr → Prop} {v : LV} {y : Value} {p : V} (r : RV N h v y) (hp : toV v = some p) {h' : Heap} : Rp x h' p y := by
  cases v with
  | «at» a => cases a <;> cases hp <;> exact r
  | _ => cases hp
theorem mk_unset {x : Cx} {hh : Heap} {xs : List Int} {its : Array Value} (hb : ∀ b o, x.h₀.get? b = some o → hh.get? b = some o) (hI : x.I = hh.objs.size + 1) (hD : x.D = hh.objs.size) (l : PlainL hh x.L its) (ia : IntsAre its.toList xs) (z : xs.length ≤ lim) :
    Mr x { unsetM with mem := xs } ((hh.push emptyDict).push (instObj x.C hh.objs.size)) := by
  refine ⟨fun b o e => Heap.get?_push_of_some _ (Heap.get?_push_of_some _ (hb b o e)), ?_, ⟨fun _ => none, ?_, fun f => ?_, fun n _ => rfl⟩, ⟨its, (l.keeps fun _ _ e => Heap.get?_push_of_some _ (Heap.get?_push_of_some _ e)), ia⟩, Nat.lt_of_le_of_lt z (by decide)⟩
  · rw [hI, hD]
    have : (hh.push emptyDict).objs.size = hh.objs.size + 1 := Heap.size_push ..
    rw [← this]
    exact Heap.get?_push_size _ rfl
  · rw [hD]
    refine Heap.Ns1.of_empty ?_
    have n0 : (hh.push emptyDict).Ns hh.objs.size (fun _ => none) := Heap.Ns.new hh (.type "dict")
    exact n0.keeps fun _ _ e => Heap.get?_push_of_some _ e
  · cases f <;> rfl
theorem mk_mach (OK : LOk X) (EF : EnvF env k) {d : Nat} (ao : AOk A (d + deep + 2)) (hcf : CallLOk X A cf) (R : FrR X hs N₀ env k.vars ρ W s.heap) {v mv : Nat} {e : LE} {pcv : LV} {n nm : Str} {ex : PySem.Expr} {p1 p2 p3 p4 p5 : Pos} {kp1 kp2 : Pos} (hn : k.vars[v]? = some n) (hnm : k.vars[mv]? = some nm) (hg : env.kindOf "MPU" = some .globalImplicit)
    (ht : trL X.F k e ex = true) (he : evL cf e ρ = some pcv) (hs' : mkL X.x.c X.im ρ v mv pcv = some ρ') {Q : Flow → Shared → Prop} (hq : ∀ s', Aft X hs N₀ env k.vars W s ρ' W s' → Q .next s') :
    wpAny (model X.x.prog X.x.w) A (exec (.Assign [.Name n p1] (.Call (.Name "MPU" p2) [] [⟨some "memory", .Name nm p3, kp1⟩, ⟨some "pc", ex, kp2⟩] p4) p5) env) Q E' s := by
  obtain ⟨w, hw, hs'⟩ := bind_of hs'
  obtain ⟨xs, hxs, hs'⟩ := bind_of hs'
  obtain ⟨pv, hpv, hs'⟩ := bind_of hs'
  obtain ⟨⟨r, σ'⟩, hc, hs'⟩ := bind_of hs'
  obtain ⟨hz, hb⟩ := cond_of hs'
  clear hs'
  cases LV.own?_of hxs
  refine and_el hz fun hz hle => ?_
  refine and_el hz fun hz hne => ?_
  refine and_el hz fun hr hfr => ?_
  have hzz : σ'.mem.length ≤ lim := Nat.le_of_ble_eq_true hle
  have hvm : v ≠ mv := fun q => by rw [q, Nat.beq_refl] at hne; cases hne
  obtain rfl : r = .none := by cases r <;> first | rfl | cases hr
  refine bind_el hb fun ρ₁ hset1 hset2 => ?_
  obtain ⟨hlt1, rfl⟩ := setL_of hset1
  have KI : X.x.K.In s.heap := fun b o e => R.rd.base _ _ ((OK.ok 0 X.x.h₀.objs.size (X.x.h₀.objs.size + 1) fresh_size (by
    cases q : X.x.h₀.get? (X.x.h₀.objs.size + 1) with
    | none => rfl
    | some o => exact absurd (Heap.lt_size q) (Nat.not_lt.mpr (Nat.le_succ _))) (Nat.ne_of_lt (Nat.lt_succ_self _))).X b o e)
  refine wpAny_Assign_Name ?_
  show wpAny _ _ (do callWith p4 (← eval (.Name "MPU" p2) env) [] (backTo p4 (starEach [] env)) (backToKw p4 (keywordEach [⟨some "memory", .Name nm p3, kp1⟩, ⟨some "pc", ex, kp2⟩] env))) _ _ s
  refine wpAny_bind (load_global EF.el (OK.g.keeps R.rd.base) hg OK.mpu (by decide) ?_)
  refine callWith_KW0 KI OK.keep rfl (kwAll_cons (load_own R.rd EF.el hnm hw fun L its vL wL lL iL zL => kwAll_cons ((sound_L OK ao hcf e).1 k env ρ hs N₀ W ex pcv ht he EF.el EF.ko R.len s _ _ R.rd fun py s₁ rp k₁ => kwAll_nil ?_)))
  refine ⟨fun b o e => k₁.grow _ _ (KI b o e), wpAny_call ?_⟩
  obtain ⟨hh, gens, dr, tk, os⟩ := s₁
  have KI₁ : X.x.K.In hh := fun b o e => k₁.grow _ _ (KI b o e)
  have R₁ := R.grow k₁.grow
  have lL₁ : PlainL hh L its := lL.keeps k₁.grow
  refine make_core (makes_of KI₁ OK.makes) (looks_findIn KI₁ OK.init) (fun self => bind_fn KI₁ self OK.initT) (.inl rfl) ?_
  have new : ∀ {f : Addr → Option Obj}, (∀ b o, f b = some o → hh.get? b = some o) → f hh.objs.size = none := fun {f} hf => by
    cases q : f hh.objs.size with
    | none => rfl
    | some o => exact absurd (Heap.lt_size (hf _ _ q)) (Nat.lt_irrefl _)
  have hL0 : X.x.h₀.get? L = none := by
    cases q : X.x.h₀.get? L with
    | none => rfl
    | some o => have := R.wnew L wL; rw [R.up _ _ q] at this; cases this
  have Dlt : ∀ {b : Addr} {o : Obj}, hh.get? b = some o → hh.objs.size ≠ b := fun e q => by rw [← q] at e; exact absurd (Heap.lt_size e) (Nat.lt_irrefl _)
  have nDL : hh.objs.size ≠ L := by obtain ⟨o, _, e, _⟩ := lL₁; exact Dlt e
  have O := OK.ok (hh.objs.size + 1) hh.objs.size L (new R₁.rd.base) hL0 nDL
  have M0 : Mr (X.at (hh.objs.size + 1) hh.objs.size L) { unsetM with mem := xs } ((hh.push emptyDict).push (instObj X.x.C hh.objs.size)) := mk_unset (x := X.at (hh.objs.size + 1) hh.objs.size L) R₁.rd.base rfl rfl lL₁ iL zL
  have hdep : (A.under (.builtin "type.__call__" ⟨.ref X.x.C :: [], [("memory", .ref L), ("pc", py)]⟩)).depth + deep ≤ recursionLimit := by
    show A.depth + _ + deep ≤ _
    have := weight_tc X.x.C [] [("memory", .ref L), ("pc", py)]
    have := ao.dp
    lia
  refine call_args (x := X.at (hh.objs.size + 1) hh.objs.size L) (d := 11) O (small_at OK _ _ _) hdep (fun A' h' => sound_call O (small_at OK _ _ _) 11 A' h') (vals := [.ref L, py]) hc (fun fd md hm hk hlen => OK.initB _ fd md (.ref (hh.objs.size + 1)) (.ref L) py hm hk (fun b o e => Heap.get?_push_of_some _ (Heap.get?_push_of_some _ (KI₁ b o e)))) M0 (.cons rfl (.cons (toV_rp rp hpv) .nil)) fun y s' M' ry kp => ?_
  obtain rfl : y = .none := ry
  refine ⟨rfl, ?_⟩
  -- the frame behind __init__
  have g2 : Kg s ⟨(hh.push emptyDict).push (instObj X.x.C hh.objs.size), gens, dr, tk, os⟩ := k₁.trans ((Kg.push' (s := ⟨hh, gens, dr, tk, os⟩)).trans .push')
  have R₂ := R.grow g2.grow
  have hDl : hh.objs.size ≠ env.locals := by obtain ⟨m, o, es, ep, e, _⟩ := R₁.locNs; exact Dlt e
  have eD : ((hh.push emptyDict).push (instObj X.x.C hh.objs.size)).get? hh.objs.size = some emptyDict := Heap.get?_push_of_some _ (Heap.get?_push_size _ rfl)
  -- the machines of before have other dicts
  have far : ∀ j nj σ m I', k.vars[j]? = some nj → ρ.at j = some (.mpu σ m) → VarAt env ((hh.push emptyDict).push (instObj X.x.C hh.objs.size)) nj (.ref I') → ∃ D', hh.get? I' = some (instObj X.x.C D') ∧ D' ≠ hh.objs.size ∧ I' ≠ hh.objs.size ∧ I' ≠ L := fun j nj σ m I' hj hu vI => by
    obtain ⟨J, D', L', ys, nm', vJ, M⟩ := R₁.rd.mach j nj σ m hj hu
    cases vI.unique (vJ.grow fun _ _ e => Heap.get?_push_of_some _ (Heap.get?_push_of_some _ e))
    obtain ⟨o, _, _, e, _⟩ := M.mr.parts
    have e : hh.get? D' = some o := e
    have eI : hh.get? I' = some (instObj X.x.C D') := M.mr.inst
    refine ⟨D', eI, Ne.symm (Dlt e), Ne.symm (Dlt eI), fun q => ?_⟩
    obtain ⟨o, _, eo, _, _, d⟩ := lL₁
    rw [q, eo] at eI; cases eI; cases d
  obtain ⟨A1, vm⟩ := kp_aft (I := hh.objs.size + 1) R₂ hnm hw (vL.grow g2.grow) (new R₁.hb) eD rfl hDl kp M' hzz fun j nj σ m I' D' L' ys nm' hj hu vI M q => by
    obtain ⟨D2, e2, n2, _⟩ := far j nj σ m I' hj hu vI
    have e3 : ((hh.push emptyDict).push (instObj X.x.C hh.objs.size)).get? I' = some (instObj X.x.C D') := M.mr.inst
    rw [Heap.get?_push_of_some _ (Heap.get?_push_of_some _ e2)] at e3
    injection e3 with e3; injection e3 with _ e3; injection e3 with e3
    exact n2 (e3.trans q)
  have hset2' := hset2
  obtain ⟨hlt2, rfl⟩ := setL_of hset2
  have frv : free (ρ.set mv (some (.own σ'.mem))) v = true := by
    refine List.all_eq_true.mpr fun o ho => ?_
    rcases List.mem_or_eq_of_mem_set ho with h | h
    · exact List.all_eq_true.mp hfr o h
    · rw [h]; rfl
  refine stored_aft EF A1.fr hn frv hset2' trivial (fun _ q => absurd q Bool.false_ne_true) (fun σ₀ mv₀ q => ?_) fun s'' A2 => hq s'' ((Aft.of_kg R g2).trans (A1.trans A2))
  cases q
  refine ⟨Ne.symm hvm, hh.objs.size + 1, hh.objs.size, L, σ'.mem, nm, rfl, ⟨LLoc.at_self hlt1, hnm, vm _ _ (vL.grow g2.grow), M', new R₁.hb, new R₁.rd.base, hL0, hDl⟩, fun j nj τ m J qj hj hu vJ e => ?_⟩
  by_cases qm : j = mv
  · subst qm; rw [LLoc.at_self hlt1] at hu; cases hu
  rw [LLoc.at_ne qm] at hu
  obtain ⟨J2, D2, L2, zs, nm2, vJ2, _⟩ := R₂.rd.mach j nj τ m hj hu
  cases (vm _ _ vJ2).unique vJ
  obtain ⟨D', e2, n2, n3, n4⟩ := far j nj τ m J hj hu vJ2
  obtain ⟨h', t', rfl, aw⟩ := kp
  have e3 := aw J _ (Heap.get?_push_of_some (instObj X.x.C hh.objs.size) (Heap.get?_push_of_some emptyDict e2)) (by simp only [List.mem_cons, List.not_mem_nil, or_false, not_or]; exact ⟨n3, n4⟩)
  rw [e] at e3
  injection e3 with e3; injection e3 with _ e3; injection e3 with e3
  exact n2 e3.symm
end
end Mine

end
section
open PySem PySem.W PyProof.Rows
set_option maxRecDepth 100000
set_option maxHeartbeats 1000000
set_option linter.unusedSimpArgs false
set_option linter.unusedVariables false
set_option linter.unusedSectionVars false
namespace Mine
noncomputable def FlL (N₀ W' : Addr → Prop) (h : Heap) : LFl → Flow → Prop
  | .next, f => f = .next
  | .brk, f => f = .brk
  | .ret v, f => ∃ y, f = .ret y ∧ RV N₀ h v y
section
variable (X : LX) (A : Around) (cf : Nat → List LV → Option LV)
noncomputable def GoodSt (st : LS) : Prop := ∀ (k : LC) (env : Env) (ρ : LLoc) (hs : Addr → Option Obj) (N₀ W : Addr → Prop) (t : Stmt) (fl : LFl) (ρ' : LLoc), trLS X.x.c X.F k st t = true → exL X.x.c X.im X.fuel cf st ρ = some (fl, ρ') → EnvF env k →
  ∀ (s : Shared) (Q : Flow → Shared → Prop) (E' : Value → Shared → Prop), FrR X hs N₀ env k.vars ρ W s.heap → (∀ f W' s', Aft X hs N₀ env k.vars W s ρ' W' s' → FlL N₀ W' s'.heap fl f → Q f s') → wpAny (model X.x.prog X.x.w) A (exec t env) Q E' s
noncomputable def GoodSts (st : LSs) : Prop := ∀ (k : LC) (env : Env) (ρ : LLoc) (hs : Addr → Option Obj) (N₀ W : Addr → Prop) (t : List Stmt) (fl : LFl) (ρ' : LLoc), trLSs X.x.c X.F k st t = true → exLs X.x.c X.im X.fuel cf st ρ = some (fl, ρ') → EnvF env k →
  ∀ (s : Shared) (Q : Flow → Shared → Prop) (E' : Value → Shared → Prop), FrR X hs N₀ env k.vars ρ W s.heap → (∀ f W' s', Aft X hs N₀ env k.vars W s ρ' W' s' → FlL N₀ W' s'.heap fl f → Q f s') → wpAny (model X.x.prog X.x.w) A (execs t env) Q E' s
end
section
variable {X : LX} {A : Around} {cf : Nat → List LV → Option LV} (OK : LOk X) {d : Nat} (ao : AOk A (d + deep + 2)) (hcf : CallLOk X A cf)
theorem notComp_swaps {e : PySem.Expr} (h : notComp e = true) (t : Option PySem.Expr) (n : Nat) (env : Env) : swapsWith e t n env = pure false := by
  cases e <;> first | rfl | cases h
include OK ao hcf
theorem s_asg (v : Nat) (e : LE) : GoodSt X A cf (.asg v e) := by
  intro k env ρ hs N₀ W t fl ρ' ht he EF s Q E' R h
  refine inv_trLS_asg ht fun _ _ _ _ hx₀ ht => ?_
  subst hx₀
  refine and_el ht fun ht hx => ?_
  refine and_el ht fun ht hst => ?_
  refine and_el ht fun hv hc => ?_
  refine bind_el he fun x hev he => ?_
  obtain ⟨ρ₁, hp, e'⟩ := map_of he
  cases e'
  refine wpAny_Assign_Name ((sound_L OK ao hcf e).1 k env ρ hs N₀ W _ x hx hev EF.el EF.ko R.len s _ _ R.rd fun y s₁ r k₁ => ?_) (notComp_swaps hc _ _ _)
  exact store_val EF (R.grow k₁.grow) (isVarL_of hv) hp (r.unfl hst) fun s' a => h _ _ s' ((Aft.of_kg R k₁).trans a) rfl
theorem s_newl (v : Nat) (e : LE) : GoodSt X A cf (.newl v e) := by
  intro k env ρ hs N₀ W t fl ρ' ht he EF s Q E' R h
  refine inv_trLS_newl ht fun _ _ _ _ hx₀ ht => ?_
  subst hx₀
  refine and_el ht fun ht hx => ?_
  refine and_el ht fun ht hfr => ?_
  refine and_el ht fun hv hc => ?_
  refine bind_el he fun x hev he => ?_
  refine bind_el he fun xs hxs he => ?_
  obtain ⟨hf, he⟩ := cond_of he
  obtain ⟨ρ₁, hp, e'⟩ := map_of he
  cases e'
  cases LV.ints?_of hxs
  exact wpAny_Assign_Name (sound_F OK ao hcf e hfr k env ρ hs N₀ W _ _ hx hev EF.el EF.ko R.len s _ _ R.rd fun y s₁ r k₁ nw => store_own EF R k₁ (isVarL_of hv) hf hp r nw fun W' s' a => h _ W' s' a rfl) (notComp_swaps hc _ _ _)
omit OK ao hcf in
theorem load_loc {k : LC} {env : Env} (EF : EnvF env k) {s : Shared} {n : Str} {y : Value} (va : VarAt env s.heap n y) {Q : Value → Shared → Prop} {E' : Value → Shared → Prop} (q : Q y s) : wpAny (model X.x.prog X.x.w) A (loadName env n) Q E' s := by
  rcases va with ⟨kk, m, hm, e⟩ | ⟨kk, c, hc, hcell⟩
  · exact wpAny_loadName_local EF.el.kind kk hm e q
  · exact wpAny_loadName_cell EF.el.kind kk hc hcell q
theorem s_aug (v : Nat) (op : LOp) (e : LE) : GoodSt X A cf (.aug v op e) := by
  intro k env ρ hs N₀ W t fl ρ' ht he EF s Q E' R h
  refine inv_trLS_aug ht fun _ _ _ _ _ hx₀ ht => ?_
  subst hx₀
  refine and_el ht fun ht hx => ?_
  refine and_el ht fun hv ho => ?_
  cases beq_iff_eq.mp ho
  refine bind_el he fun u ha he => ?_
  refine bind_el he fun a hu he => ?_
  refine bind_el he fun w hb he => ?_
  refine bind_el he fun b hw he => ?_
  refine bind_el he fun r hr he => ?_
  obtain ⟨ρ₁, hp, e'⟩ := map_of he
  cases e'
  cases LV.int?_of hu
  cases LV.int?_of hw
  obtain ⟨e1, st1⟩ := readV_of ha
  obtain ⟨y, va, ry⟩ := R.rd.var v _ _ (isVarL_of hv) e1
  obtain ⟨t1, rfl⟩ := ry.val st1
  refine wpAny_AugAssign_Name (load_loc EF va ((sound_L OK ao hcf e).1 k env ρ hs N₀ W _ _ hx hb EF.el EF.ko R.len s _ _ R.rd fun y s₁ r1 k₁ => ?_))
  obtain ⟨t2, rfl⟩ := r1
  refine LOp.inplace hr fun t3 => ?_
  have k₂ : Kg s { s₁ with toks := s₁.toks + 1 } := k₁.trans .tok
  exact store_val (s := { s₁ with toks := s₁.toks + 1 }) EF (R.grow k₂.grow) (isVarL_of hv) hp (v := .int r) ⟨t3, rfl⟩ fun s' a => h _ _ s' ((Aft.of_kg R k₂).trans a) rfl
omit OK ao hcf in
theorem putSub_of {ρ ρ' : LLoc} {v : Nat} {j x : Int} (h : putSub ρ v j x = some ρ') : ∃ xs ys, ρ.at v = some (.own xs) ∧ putAt xs j x = some ys ∧ setL ρ v (.own ys) = some ρ' := by
  refine bind_el h fun u hu h => ?_
  refine bind_el h fun xs hxs h => ?_
  refine bind_el h fun ys hy h3 => ?_
  cases LV.own?_of hxs
  exact ⟨xs, ys, hu, hy, h3⟩
omit OK ao hcf in
theorem sub_store {k : LC} {env : Env} {ρ ρ' : LLoc} {hs : Addr → Option Obj} {N₀ W : Addr → Prop} {s : Shared} {E' : Value → Shared → Prop} (EF : EnvF env k) (R : FrR X hs N₀ env k.vars ρ W s.heap) {v : Nat} {n : Str} {a : Addr} {j x : Int} {t u : Tok} (hv : k.vars[v]? = some n) (va : VarAt env s.heap n (.ref a))
    (hp : putSub ρ v j x = some ρ') {Q : Unit → Shared → Prop} (h : ∀ s', Aft X hs N₀ env k.vars W s ρ' W s' → Q () s') : wpAny (model X.x.prog X.x.w) A (setItem (.ref a) (.int j t) (.int x u)) Q E' s := by
  obtain ⟨xs, ys, hx, hy, hset⟩ := putSub_of hp
  obtain ⟨q, e⟩ := ite_of hy
  cases e
  obtain ⟨y, vb, a', its, e, w, l, i0, z0⟩ := R.rd.var v n _ hv hx
  have := va.unique vb
  rw [e] at this; cases this
  have hz := ints_len i0
  have h63 := lim_63 z0
  refine set_plainL l q.1 (by lia) (by rw [hz]; lia) fun h' l' sb => ?_
  refine h _ (own_upd (t' := s.toks) R EF hv hx va l' ?_ (by rw [List.length_set]; exact z0) sb hset)
  rw [Array.toList_setIfInBounds]; exact ints_set i0 _ _ _
theorem s_sub (v : Nat) (i e : LE) : GoodSt X A cf (.sub v i e) := by
  intro k env ρ hs N₀ W t fl ρ' ht he EF s Q E' R h
  refine inv_trLS_sub ht fun _ _ _ _ _ _ hx₀ ht => ?_
  subst hx₀
  refine and_el ht fun ht hx => ?_
  refine and_el ht fun ht hi => ?_
  refine and_el ht fun ht hc => ?_
  refine and_el ht fun hv hp => ?_
  refine bind_el he fun u hev he => ?_
  refine bind_el he fun x hu he => ?_
  refine bind_el he fun w hj he => ?_
  refine bind_el he fun j hw he => ?_
  obtain ⟨ρ₁, hps, e'⟩ := map_of he
  cases e'
  cases LV.int?_of hu
  cases LV.int?_of hw
  obtain ⟨xs, _, hown, _⟩ := putSub_of hps
  refine wpAny_Assign_Subscript ((sound_L OK ao hcf e).1 k env ρ hs N₀ W _ _ hx hev EF.el EF.ko R.len s _ _ R.rd fun y s₁ r k₁ => load_own (R.grow k₁.grow).rd EF.el (isVarL_of hv) hown fun a its va wa l ia z =>
    (sound_L OK ao hcf i).1 k env ρ hs N₀ W _ _ hi hj EF.el EF.ko R.len s₁ _ _ (R.grow k₁.grow).rd fun yi s₂ ri k₂ => ?_) (notComp_swaps hc _ _ _)
  obtain ⟨t1, rfl⟩ := r
  obtain ⟨t2, rfl⟩ := ri
  exact sub_store EF (R.grow (k₁.trans k₂).grow) (isVarL_of hv) (va.grow k₂.grow) hps fun s' a => h _ _ s' ((Aft.of_kg R (k₁.trans k₂)).trans a) rfl
omit hcf in
theorem s_step (v m : Nat) : GoodSt X A cf (.step v m) := by
  intro k env ρ hs N₀ W t fl ρ' ht he EF s Q E' R h
  refine inv_trLS_step ht fun _ _ _ _ _ _ hx₀ ht => ?_
  subst hx₀
  refine and_el ht fun ht hl => ?_
  refine and_el ht fun hv hm => ?_
  obtain ⟨md, hmd, rfl⟩ := isMeth_of hm
  obtain ⟨ρ₁, hp, e'⟩ := map_of he
  cases e'
  have hi : interactive env = false := by show (env.scope.kind == .module && _) = false; rw [EF.el.kind]; rfl
  exact wpAny_Expr_any (mach_call (d := d + 2) OK EF (by have := ao; rwa [show d + deep + 2 = d + 2 + deep by lia] at this) R (isVarL_of hv) hmd (beq_iff_eq.mp hl) hp fun y s' a => h _ _ s' a rfl) hi
theorem s_mk (v mv : Nat) (e : LE) : GoodSt X A cf (.mk v mv e) := by
  intro k env ρ hs N₀ W t fl ρ' ht he EF s Q E' R h
  refine inv_trLS_mk ht fun _ _ _ _ _ _ _ _ _ _ _ _ _ hx₀ ht => ?_
  subst hx₀
  refine and_el ht fun ht hx => ?_
  refine and_el ht fun ht hp => ?_
  refine and_el ht fun ht hmv => ?_
  refine and_el ht fun ht h5 => ?_
  refine and_el ht fun ht h4 => ?_
  refine and_el ht fun ht hg => ?_
  refine and_el ht fun hv h2 => ?_
  cases beq_iff_eq.mp h2
  cases beq_iff_eq.mp h4
  cases beq_iff_eq.mp h5
  refine bind_el he fun x hev he => ?_
  obtain ⟨ρ₁, hmk, e'⟩ := map_of he
  cases e'
  exact mk_mach OK EF ao hcf R (isVarL_of hv) (isVarL_of hmv) (EF.ko.g _ (isGlob_of hg)) hx hev hmk fun s' a => h _ _ s' a rfl
theorem s_ret (e : LE) : GoodSt X A cf (.ret e) := by
  intro k env ρ hs N₀ W t fl ρ' ht he EF s Q E' R h
  refine inv_trLS_ret ht fun _ _ hx₀ ht => ?_
  subst hx₀
  refine and_el ht fun hst hx => ?_
  obtain ⟨x, hev, e'⟩ := map_of he
  cases e'
  exact wpAny_Return_some ((sound_L OK ao hcf e).1 k env ρ hs N₀ W _ x hx hev EF.el EF.ko R.len s _ _ R.rd fun y s₁ r k₁ => h _ W s₁ (Aft.of_kg R k₁) ⟨y, rfl, (r.unfl hst).weak fun _ _ q => .inl q⟩)
omit OK ao hcf in
theorem s_brk : GoodSt X A cf .brk := by
  intro k env ρ hs N₀ W t fl ρ' ht he EF s Q E' R h
  refine inv_trLS_brk ht fun _ hx₀ ht => ?_
  subst hx₀
  cases he
  exact wpAny_Break (h _ W s (.refl R) rfl)
theorem s_ite {t : LE} {a b : LSs} (ga : GoodSts X A cf a) (gb : GoodSts X A cf b) : GoodSt X A cf (.ite t a b) := by
  intro k env ρ hs N₀ W st fl ρ' ht he EF s Q E' R h
  refine inv_trLS_ite ht fun _ _ _ _ hx₀ ht => ?_
  subst hx₀
  refine and_el ht fun ht hb => ?_
  refine and_el ht fun hx ha => ?_
  refine bind_el he fun x hev he => ?_
  refine bind_el he fun q hv he => ?_
  refine wpAny_If ((sound_L OK ao hcf t).2 k env ρ hs N₀ W _ x q hx hev hv EF.el EF.ko R.len s _ _ R.rd fun s₁ k₁ => ?_)
  cases q
  · exact gb k env ρ hs N₀ W _ fl ρ' hb he EF s₁ _ _ (R.grow k₁.grow) fun f W' s' a r => h f W' s' ((Aft.of_kg R k₁).trans a) r
  · exact ga k env ρ hs N₀ W _ fl ρ' ha he EF s₁ _ _ (R.grow k₁.grow) fun f W' s' a r => h f W' s' ((Aft.of_kg R k₁).trans a) r
omit OK ao hcf in
theorem ss_nil : GoodSts X A cf .nil := by
  intro k env ρ hs N₀ W t fl ρ' ht he EF s Q E' R h
  cases t with
  | nil => cases he; exact wpAny_execs_nil (h _ W s (.refl R) rfl)
  | cons _ _ => cases ht
omit OK ao hcf in
theorem ss_cons {a : LS} {r : LSs} (ga : GoodSt X A cf a) (gr : GoodSts X A cf r) : GoodSts X A cf (.cons a r) := by
  intro k env ρ hs N₀ W t fl ρ' ht he EF s Q E' R h
  cases t with
  | nil => cases ht
  | cons x l =>
    refine and_el ht fun h1 h2 => ?_
    obtain ⟨⟨f₁, ρ₁⟩, h3, he⟩ := bind_of he
    refine wpAny_execs_cons (ga k env ρ hs N₀ W x _ _ h1 h3 EF s _ _ R fun f W₁ s₁ a₁ r₁ => ?_)
    cases f₁ with
    | next =>
      obtain rfl := r₁
      exact gr k env ρ₁ hs N₀ W₁ l fl ρ' h2 he EF s₁ _ _ a₁.fr fun f W' s' a₂ r₂ => h f W' s' (a₁.trans a₂) r₂
    | brk => cases he; obtain rfl := r₁; exact h _ W₁ s₁ a₁ rfl
    | ret v => cases he; obtain ⟨y, rfl, ry⟩ := r₁; exact h _ W₁ s₁ a₁ ⟨y, rfl, ry⟩
end
end Mine

end
section
open PySem PySem.W PyProof.Rows
set_option maxRecDepth 100000
set_option maxHeartbeats 1000000
set_option linter.unusedSimpArgs false
set_option linter.unusedVariables false
set_option linter.unusedSectionVars false
namespace Mine
section
variable {X : LX} {A : Around} {cf : Nat → List LV → Option LV} (OK : LOk X) {d : Nat} (ao : AOk A (d + deep + 2)) (hcf : CallLOk X A cf)
include OK ao hcf
end
end Mine

end
section
open PySem PySem.W PyProof.Rows
set_option maxRecDepth 100000
set_option maxHeartbeats 1000000
set_option linter.unusedSimpArgs false
set_option linter.unusedVariables false
set_option linter.unusedSectionVars false
namespace Mine
section
variable {X : LX} {A : Around} {cf : Nat → List LV → Option LV} (OK : LOk X) {d : Nat} (ao : AOk A (d + deep + 2)) (hcf : CallLOk X A cf)
theorem swaps_comp {k : LC} {env : Env} (EF : EnvF env k) {elt : PySem.Expr} {gens : List Comprehension} {sc : Scope} {xp q : Pos} {n : Str} (hk : k.names.lookup n = some .local) (h : swapOk n q (.ListComp elt gens sc xp) = true) (line : Nat) :
    swapsWith (.ListComp elt gens sc xp) (some (.Name n q)) line env = pure true := by
  have hb : env.blockKind = .function := by unfold Env.blockKind; rw [EF.el.kind]; rfl
  have hkk : env.kindOf n = some .local := by show env.scope.names.lookup n = _; rw [← EF.names]; exact hk
  show (pure (env.blockKind == .function && env.kindOf n == some .local && q.line == (PySem.Expr.ListComp elt gens sc xp).pos.line && !(sc.names.any fun (m, k) => m == n && (k == .local || k == .cell))) : Sem Bool) = pure true
  rw [hb, hkk]
  refine and_el h fun h1 h2 => ?_
  have e1 : (q.line == (PySem.Expr.ListComp elt gens sc xp).pos.line) = true := h1
  rw [e1]
  have e2 : (!(sc.names.any fun (m, k) => m == n && (k == .local || k == .cell))) = true := h2
  rw [e2]
  rfl
theorem kind_of {k : LC} {env : Env} (EF : EnvF env k) {n : Str} {q : NameKind} (h : k.names.lookup n = some q) : env.kindOf n = some q := by
  show env.scope.names.lookup n = _; rw [← EF.names]; exact h
theorem compE_of {e : LE} (h : compE e = true) : ∃ elt caps src, e = .comp elt caps src := by
  cases e <;> first | exact ⟨_, _, _, rfl⟩ | cases h
include OK ao hcf
theorem s_asgC (v : Nat) (e : LE) : GoodSt X A cf (.asgC v e) := by
  intro k env ρ hs N₀ W t fl ρ' ht he EF s Q E' R h
  refine inv_trLS_asgC ht fun n q0 x0 _ hx₀ ht => ?_
  subst hx₀
  refine and_el ht fun ht hx => ?_
  refine and_el ht fun ht hsw => ?_
  refine and_el ht fun ht hce => ?_
  refine and_el ht fun hv hkl => ?_
  have hkl := beq_iff_eq.mp hkl
  refine bind_el he fun x hev he => ?_
  obtain ⟨ρ₁, hp, e'⟩ := map_of he
  cases e'
  obtain ⟨elt, caps, src, rfl⟩ := compE_of hce
  obtain ⟨e0, y0, _, it0, sc, xp, rfl, C, hsr, hel⟩ := trC_inv hx
  obtain ⟨items, xs, rs, hi, hxs, hrs, rfl⟩ := comp_inv hev
  have hkk := kind_of EF hkl
  have hpk : (env.scope.kind == .class || (env.scope.kind == .module && env.locals != env.globals)) = false := by rw [EF.el.kind]; rfl
  refine wpAny_Assign_ListComp_free (fun _ => true) (eltR cf elt caps ρ) (swaps_comp EF hkl hsw _) (cells_of C EF.ko) C.cell C.kind C.loc C.xl hkk hpk (sound_Src OK ao hcf src k env ρ hs N₀ W _ items hsr hi EF.el EF.ko R.len s _ _ R.rd fun it s₂ S => ?_) (fold_src hsr env)
  obtain ⟨I, fp, P, St, hp0, rfl, hz, Wk, st, nI', g1, g2', kg, eI, hfp, hP, _, _, _⟩ := S
  have nI := none_down g1 nI'
  have hP' := int_items hxs hP
  obtain ⟨m, ns⟩ := R.locNs
  have lI : env.locals ≠ I := fun q => by obtain ⟨o, _, _, e, _⟩ := ns; rw [q, nI] at e; cases e
  refine ⟨I, fp, [I], items.length, P, St, m, rfl, Wk, Nat.le_trans hz lim_size, st, walks_fp (W := W) (I := I) eI g2' hfp, (fun q => lI (List.mem_singleton.mp q)), ns.keeps kg.grow, comp_quiet (sound_L OK ao hcf elt).1 C EF.el EF.ko R.len hel R.rd kg nI hrs hP', ?_⟩
  intro D h' tk ys vs hD lD pD hvl hvP pr ns' keep
  rw [filter_tt] at pr
  have ia := comp_ints (cf := cf) hrs hvl (fun j w hj => hP' j w (hvP j w hj)) pr
  have keep' : ∀ b o, b ≠ env.locals → s.heap.get? b = some o → h'.get? b = some o := fun b o q e => keep b o q (fun z => by rw [List.mem_singleton.mp z, nI] at e; cases e) (kg.grow b o e)
  have SR := storeR_local R hkk ns ns' keep'
  obtain ⟨stb1, hf, hset⟩ := putV_of hp
  obtain ⟨hlt, rfl⟩ := setL_of hset
  have nD := none_down kg.grow hD
  obtain ⟨h2, t2, rfl, g2⟩ := kg
  refine h _ W _ ⟨R.stored EF.nodup SR (isVarL_of hv) hf (v := .ints rs) ⟨D, ys, rfl, fun q => fresh_notin R.rd.lists nD q, lD, ia, by rw [mapO_len hrs]; exact hz⟩ (fun _ q => absurd q Bool.false_ne_true) (fun _ _ q => by cases q), fun _ w => .inl w, SR.evo.mono fun _ q => q.elim, fun b o e => ?_, ⟨h', tk, rfl⟩⟩ rfl
  by_cases q : b = env.locals
  · subst q; obtain ⟨o', _, _, e, _⟩ := ns'; exact ⟨o', e⟩
  · exact ⟨o, keep' b o q e⟩
end
end Mine

end
section
open PySem PySem.W PyProof.Rows
set_option maxRecDepth 100000
set_option maxHeartbeats 1000000
set_option linter.unusedSimpArgs false
set_option linter.unusedVariables false
set_option linter.unusedSectionVars false
namespace Mine
section
variable {X : LX} {A : Around} {cf : Nat → List LV → Option LV} (OK : LOk X) {d : Nat} (ao : AOk A (d + deep + 2)) (hcf : CallLOk X A cf)
theorem evo_st {prog : Program} {w : World} {I : Addr} {fp wr : List Addr} {n : Nat} {P : Nat → Value → Prop} {St : Nat → Heap → Prop} (Wk : Walks prog w A I fp wr n P St) (stK : ∀ i (h : Heap) b o, St i h → b ∈ fp → h.get? b = some o → isStore o = false) {W : Addr → Prop} (nw : ∀ b ∈ fp, ¬ W b) {i : Nat} {h h' : Heap} (st : St i h) (e : Evo W h h') : St i h' :=
  Wk.frame i h h' st fun b hb o eo => e b o eo (nw b hb) (stK i h b o st hb eo)
noncomputable abbrev LoopQ (I : Nat → Shared → Prop) (n : Nat) (Q : Flow → Shared → Prop) : Flow → Shared → Prop := fun f s => match f with
  | .next | .cont => ∃ m, m < n ∧ I m s
  | .brk => Q .next s
  | .ret v => Q (.ret v) s
noncomputable def ForI (X : LX) (hs : Addr → Option Obj) (N₀ : Addr → Prop) (env : Env) (vars : List Str) (W : Addr → Prop) (s₀ : Shared) (St : Nat → Heap → Prop) (I : Addr) (items : List LV) (F : List LV → LLoc → Option (LFl × LLoc)) (r : LFl × LLoc) (n : Nat) (s : Shared) : Prop :=
  ∃ i ρ W₁, i ≤ items.length ∧ n = items.length - i ∧ F (items.drop i) ρ = some r ∧ St i s.heap ∧ ¬ W₁ I ∧ Aft X hs N₀ env vars W s₀ ρ W₁ s
include OK ao hcf
theorem s_for {tg : LTg} {src : LSrc} {b : LSs} (gb : GoodSts X A cf b) : GoodSt X A cf (.for tg src b) := by
  intro k env ρ hs N₀ W t fl ρ' ht he EF s Q E' R h
  refine inv_trLS_for ht fun tgx itx bodyx _ posx hx₀ ht => ?_
  subst hx₀
  refine and_el ht fun ht hbody => ?_
  refine and_el ht fun ht hsr => ?_
  refine and_el ht fun ho htg => ?_
  cases List.isEmpty_iff.mp ho
  refine bind_el he fun items hi he => ?_
  refine wpAny_For (sound_Src OK ao hcf src k env ρ hs N₀ W _ items hsr hi EF.el EF.ko R.len s _ _ R.rd fun it s₂ S => ?_) (fold_src hsr env)
  obtain ⟨I, fp, P, St, hp, rfl, hz, Wk, st, nI, g1, g2, kg, eI, hfp, hP, stK, itK, go⟩ := S
  have Rp := R.grow g1
  have nIW : ¬ W I := fun w => by obtain ⟨its, o, _, e, _⟩ := Rp.rd.lists I (.inr w); rw [nI] at e; cases e
  have hsI : hs I = none := by
    cases q : hs I with
    | none => rfl
    | some o => have := Rp.hb _ _ q; rw [nI] at this; cases this
  generalize e0 : ({ s₂ with heap := hp } : Shared) = s₀
  have h0 : s₀.heap = hp := e0 ▸ rfl
  have a0 : Aft X hs N₀ env k.vars W s₀ ρ W s₂ := e0 ▸ Aft.of_kg (s := { s₂ with heap := hp }) Rp ⟨s₂.heap, s₂.toks, rfl, g2⟩
  generalize eF : forL (bindTg tg) (fun ρ => exLs X.x.c X.im X.fuel cf b ρ) = F at he
  refine codeAny_forLoop_any (ForI X hs N₀ env k.vars W s₀ St I items F (fl, ρ')) ?_ items.length ⟨0, ρ, W, Nat.zero_le _, rfl, he, st, nIW, a0⟩
  have fin : ∀ {f W' s'}, Aft X hs N₀ env k.vars W s₀ ρ' W' s' → FlL N₀ W' s'.heap fl f → Q f s' := fun {f W' s'} a r => by
    subst e0
    refine h f W' s' ⟨a.fr, fun x w => ?_, fun x o e n st => a.evo x o (g1 x o e) n st, fun x o e => a.live x o (g1 x o e), ?_⟩ r
    · rcases a.new x w with q | q
      · exact .inl q
      · exact .inr (none_down g1 q)
    · obtain ⟨h1, t1, rfl, _⟩ := kg
      obtain ⟨h2, t2, rfl⟩ := a.ks
      exact ⟨h2, t2, rfl⟩
  rintro n s₃ ⟨i, ρ₁, W₁, hle, rfl, hf, st₃, nI₁, a₃⟩
  have nwf : ∀ b ∈ fp, ¬ W₁ b := fun b hb q => by
    rcases hfp b hb with rfl | ⟨o, e, _, nb⟩
    · exact nI₁ q
    · rcases a₃.new b q with z | z
      · exact nb z
      · rw [h0, e] at z; cases z
  -- the iterator goes on
  have next : ∀ (h' : Heap) (tk : Nat), (∀ b o, b ∉ [I] → s₃.heap.get? b = some o → h'.get? b = some o) → Aft X hs N₀ env k.vars W s₀ ρ₁ W₁ { s₃ with heap := h', toks := tk } := fun h' tk keep => by
    have keep' : ∀ b o, b ≠ I → s₃.heap.get? b = some o → h'.get? b = some o := fun b o q e => keep b o (fun z => q (List.mem_singleton.mp z)) e
    refine ⟨a₃.fr.offI keep' (itK i _ st₃) hsI, a₃.new, fun x o e n sto => keep' x o (fun q => by rw [h0, q, nI] at e; cases e) (a₃.evo x o e n sto), fun x o e => ?_, ?_⟩
    · obtain ⟨o', e'⟩ := a₃.live x o e
      exact ⟨o', keep' x o' (fun q => by rw [h0, q, nI] at e; cases e) e'⟩
    · obtain ⟨h2, t2, rfl⟩ := a₃.ks
      exact ⟨h', tk, rfl⟩
  by_cases hlt : i < items.length
  · refine Wk.item i s₃ _ _ hlt st₃ fun v h' tk hpv st₄ keep => ?_
    obtain ⟨lv, hlv, rlv⟩ := hP i v hpv
    have hdrop : items.drop i = lv :: items.drop (i + 1) := by
      rw [List.drop_eq_getElem_cons hlt]
      rw [List.getElem?_eq_getElem hlt] at hlv
      rw [Option.some.inj hlv]
    rw [hdrop, ← eF] at hf
    refine bind_el hf fun ρ₂ hbd hf => ?_
    obtain ⟨⟨f₁, ρ₃⟩, hex, hf⟩ := bind_of hf
    rw [eF] at hf
    have a₄ := next h' tk keep
    have rv₄ : RV (nn N₀ W₁) h' lv v := a₄.val (h0 ▸ Rp) (h0 ▸ rlv)
    have turn : ∀ E₁ E₂, wpAny (model X.x.prog X.x.w) A (assign tgx env v) (fun _ s₅ => wpAny (model X.x.prog X.x.w) A (execs bodyx env) (LoopQ (ForI X hs N₀ env k.vars W s₀ St I items F (fl, ρ')) (items.length - i) Q) E₁ s₅) E₂ { s₃ with heap := h', toks := tk } := fun E₁ E₂ => by
      refine bind_ok ao.hh EF htg hbd a₄.fr rv₄ fun s₅ a₅ => ?_
      have st₅ : St (i + 1) s₅.heap := evo_st Wk stK nwf st₄ a₅.evo
      refine gb k env ρ₂ hs N₀ W₁ _ f₁ ρ₃ hbody hex EF s₅ _ _ a₅.fr fun f W₂ s₆ a₆ r₆ => ?_
      have a₇ := a₄.trans (a₅.trans a₆)
      cases f₁ with
      | next =>
        obtain rfl := r₆
        refine ⟨items.length - (i + 1), by lia, i + 1, ρ₃, W₂, hlt, rfl, hf, evo_st Wk stK nwf st₅ a₆.evo, fun w => ?_, a₇⟩
        rcases a₆.new I w with q | q
        · exact nI₁ q
        · obtain ⟨o, _, e, _⟩ := itK _ _ st₅; rw [q] at e; cases e
      | brk => cases hf; obtain rfl := r₆; exact fin a₇ rfl
      | ret x => cases hf; obtain ⟨y, rfl, ry⟩ := r₆; exact fin a₇ ⟨y, rfl, ry⟩
    -- a tuple's own hand
    cases tg with
    | one w => revert turn; apply o_Name_elim htg; intro _ _ _ turn; exact wpAny_of_eq rfl (turn _ _)
    | many ws =>
      refine bind_el hbd fun xs hx _ => ?_
      cases LV.tup?_of hx
      obtain ⟨a, its, rfl, _⟩ := rv₄
      revert turn
      apply o_Tuple_elim htg; intro _ _ _ _ turn
      exact go (i + 1) _ a _ _ _ _ _ st₄ (turn _ _)
  · obtain rfl : i = items.length := Nat.le_antisymm hle (Nat.not_lt.mp hlt)
    rw [List.drop_length, ← eF] at hf
    cases hf
    exact Wk.done s₃ _ _ st₃ fun h' tk keep => wpAny_execs_nil (fin (next h' tk keep) rfl)
end
end Mine

end
section
open PySem PySem.W PyProof.Rows
set_option maxRecDepth 100000
set_option maxHeartbeats 1000000
set_option linter.unusedSimpArgs false
set_option linter.unusedVariables false
set_option linter.unusedSectionVars false
namespace Mine
section
variable {X : LX} {A : Around} {cf : Nat → List LV → Option LV} (OK : LOk X) {d : Nat} (ao : AOk A (d + deep + 2)) (hcf : CallLOk X A cf)
theorem FrR.offII {hs : Addr → Option Obj} {N₀ : Addr → Prop} {env : Env} {k : LC} {ρ : LLoc} {W : Addr → Prop} {h h' : Heap} {I J : Addr} (R : FrR X hs N₀ env k.vars ρ W h) (keep : ∀ b o, b ≠ I → b ≠ J → h.get? b = some o → h'.get? b = some o)
    (kI : ∃ o vs, h.get? I = some o ∧ o.data = .fields vs ∧ o.cls ≠ .type "method") (hI : hs I = none) (kJ : ∃ o vs, h.get? J = some o ∧ o.data = .fields vs ∧ o.cls ≠ .type "method") (hJ : hs J = none) : FrR X hs N₀ env k.vars ρ W h' := by
  have ne1 : ∀ {I : Addr}, (∃ o vs, h.get? I = some o ∧ o.data = .fields vs ∧ o.cls ≠ .type "method") → ∀ {b : Addr} {o : Obj}, h.get? b = some o → (∀ vs, o.data ≠ .fields vs) → b ≠ I := fun {I} k {b} {o} e d q => by
    obtain ⟨oI, vs, eI, dI, cI⟩ := k
    rw [q, eI] at e; cases e; exact d vs dI
  have ne : ∀ {b : Addr} {o : Obj}, h.get? b = some o → (∀ vs, o.data ≠ .fields vs) → ¬ (b = I ∨ b = J) := fun e d q => by
    rcases q with q | q
    · exact ne1 kI e d q
    · exact ne1 kJ e d q
  refine R.same (Z := fun b => b = I ∨ b = J) (fun b o q e => keep b o (fun z => q (.inl z)) (fun z => q (.inr z)) e) (fun b q => by rcases q with q | q; exact q ▸ hI; exact q ▸ hJ) ?_ (fun n c hc => ?_) (fun b o a n e d => ne e fun vs q => by rw [d] at q; cases q)
    (fun b f s e q => ?_) (fun b C D e => ne e fun vs q => nomatch q) (fun b m n => ?_)
  · obtain ⟨m, o, es, ep, e, d, _⟩ := R.locNs
    exact ne e fun vs q => by rw [d] at q; cases q
  · obtain ⟨_, v, o, e, d⟩ := R.celN n c hc
    exact ne e fun vs q => by rw [d] at q; cases q
  · rcases q with q | q
    · obtain ⟨oI, vs, eI, dI, cI⟩ := kI
      rw [q, eI] at e; cases e; exact cI rfl
    · obtain ⟨oI, vs, eI, dI, cI⟩ := kJ
      rw [q, eI] at e; cases e; exact cI rfl
  · obtain ⟨o, es, ep, e, d, _⟩ := n
    exact ne e fun vs q => by rw [d] at q; cases q
noncomputable def ForII (X : LX) (hs : Addr → Option Obj) (N₀ : Addr → Prop) (env : Env) (vars : List Str) (W : Addr → Prop) (s₀ : Shared) (St : Nat → Heap → Prop) (I J : Addr) (items : List LV) (F : List LV → LLoc → Option (LFl × LLoc)) (r : LFl × LLoc) (n : Nat) (s : Shared) : Prop :=
  ∃ i ρ W₁, i ≤ items.length ∧ n = items.length - i ∧ F (items.drop i) ρ = some r ∧ St i s.heap ∧ ¬ W₁ I ∧ ¬ W₁ J ∧ Aft X hs N₀ env vars W s₀ ρ W₁ s
theorem enum_len : ∀ (k : Nat) (xs : List Int), (enumItems k xs).length = xs.length
  | _, [] => rfl
  | k, x :: l => congrArg (· + 1) (enum_len (k + 1) l)
theorem enum_get : ∀ (k : Nat) (xs : List Int) (i : Nat) (x : Int), xs[i]? = some x → (enumItems k xs)[i]? = some (.tup [.int ((k + i : Nat) : Int), .int x])
  | k, y :: l, 0, x, h => by cases h; rfl
  | k, y :: l, i + 1, x, h => by
    show (enumItems (k + 1) l)[i]? = _
    rw [enum_get (k + 1) l i x h, show k + 1 + i = k + (i + 1) by lia]
include OK ao hcf
theorem s_forE {vs : List Nat} {e : LE} {b : LSs} (gb : GoodSts X A cf b) : GoodSt X A cf (.forE vs e b) := by
  intro k env ρ hs N₀ W t fl ρ' ht he EF s Q E' R h
  refine inv_trLS_forE ht fun tgx n0 q0 x0 p0 bodyx posx hx₀ htg hit hbody => ?_
  subst hx₀
  refine and_el hit fun hit htr => ?_
  refine and_el hit fun hit hst => ?_
  refine and_el hit fun hit hp => ?_
  refine and_el hit fun hn hg => ?_
  cases beq_iff_eq.mp hn
  refine bind_el he fun v hv he => ?_
  refine bind_el he fun xs hxs he => ?_
  cases LV.ints?_of hxs
  obtain ⟨b1, b2⟩ := OK.blt "enumerate" (.type "enumerate") (.tail _ (.tail _ (.tail _ (.tail _ (.head _)))))
  refine wpAny_For (wpAny_Call_NameR (load_builtin EF.el (OK.g.keeps R.rd.base) (OK.b.keeps R.rd.base) (EF.ko.g _ (isGlob_of hg)) b1 b2 (by decide) ?_)) (fun _ => rfl)
  rw [plainL_star hp env []]
  refine PySem.callWith_type rfl (Calls.evalArgs_plain (Calls.spliced_cons ((sound_L OK ao hcf e).1 k env ρ hs N₀ W _ _ htr hv EF.el EF.ko R.len s _ _ R.rd fun y s₁ r k₁ => Calls.spliced_nil ?_)))
  obtain ⟨l, its, rfl, hnl, hl, hi, hz⟩ := r.unfl hst
  refine call_enumerate_list hl fun h₂ hE hI hsz up => wpAny_pyIter_enum hE ?_
  have R₁ := R.grow k₁.grow
  have hlt : l < s₁.heap.objs.size := by obtain ⟨o, e, _⟩ := hl; exact Heap.lt_size e
  have Wk := WalksT.enumerate (prog := X.x.prog) (w := X.x.w) (A := A) ao.hh (s₁.heap.objs.size + 1) s₁.heap.objs.size l (Nat.ne_of_gt (Nat.lt_succ_self _)) (Nat.ne_of_lt (Nat.lt_succ_of_lt hlt)) (Nat.ne_of_lt hlt) its
  have nE : s₁.heap.get? (s₁.heap.objs.size + 1) = none := by
    cases q : s₁.heap.get? (s₁.heap.objs.size + 1) with
    | none => rfl
    | some o => exact absurd (Heap.lt_size q) (Nat.not_lt.mpr (Nat.le_succ _))
  have nI : s₁.heap.get? s₁.heap.objs.size = none := fresh_size
  generalize hEq : s₁.heap.objs.size + 1 = ea at *
  generalize hIq : s₁.heap.objs.size = ia at *
  have hsn : ∀ {a : Addr}, s₁.heap.get? a = none → hs a = none := fun {a} n => by
    cases q : hs a with
    | none => rfl
    | some o => have := R₁.hb _ _ q; rw [n] at this; cases this
  have nW : ∀ {a : Addr}, s₁.heap.get? a = none → ¬ W a := fun {a} n w => by obtain ⟨_, o, _, e, _⟩ := R₁.rd.lists a (.inr w); rw [n] at e; cases e
  have a0 : Aft X hs N₀ env k.vars W s₁ ρ W { s₁ with heap := h₂ } := Aft.of_kg R₁ ⟨h₂, s₁.toks, rfl, up⟩
  have hlen : (enumItems 0 xs).length = its.size := by rw [enum_len, ints_len hi]
  have wl : ¬ W l := fun w => hnl (.inr w)
  obtain ⟨ol, eol, sol, _⟩ := list_store hl
  generalize eF : forL (bindTg (.many vs)) (fun ρ => exLs X.x.c X.im X.fuel cf b ρ) = F at he
  refine codeAny_forLoop_any (ForII X hs N₀ env k.vars W s₁ (fun i h => (∃ old, IsEnum h ea ia i old) ∧ h.IsListIter ia l i ∧ h.IsList l its) ea ia (enumItems 0 xs) F (fl, ρ')) ?_ (enumItems 0 xs).length ⟨0, ρ, W, Nat.zero_le _, rfl, he, ⟨⟨_, hE⟩, hI, IsList.grow hl up⟩, nW nE, nW nI, a0⟩
  have fin : ∀ {f W' s'}, Aft X hs N₀ env k.vars W s₁ ρ' W' s' → FlL N₀ W' s'.heap fl f → Q f s' := fun {f W' s'} a r => h f W' s' ((Aft.of_kg R k₁).trans a) r
  rintro n s₃ ⟨i, ρ₁, W₁, hle, rfl, hf, st₃, nE₁, nI₁, a₃⟩
  -- what the iterators' own steps leave
  have off : ∀ (h' : Heap) (tk : Nat), (∀ b o, b ∉ [ea, ia] → s₃.heap.get? b = some o → h'.get? b = some o) → Aft X hs N₀ env k.vars W s₁ ρ₁ W₁ { s₃ with heap := h', toks := tk } := fun h' tk keep => by
    have keep' : ∀ b o, b ≠ ea → b ≠ ia → s₃.heap.get? b = some o → h'.get? b = some o := fun b o q q2 e => keep b o (by simp only [List.mem_cons, List.not_mem_nil, or_false, not_or]; exact ⟨q, q2⟩) e
    obtain ⟨⟨old, eE⟩, ⟨oI, eI, cI, dI⟩, _⟩ := st₃
    have no : ∀ {x : Addr} {o : Obj}, s₁.heap.get? x = some o → x ≠ ea ∧ x ≠ ia := fun e => ⟨fun q => (by rw [q, nE] at e; cases e), fun q => (by rw [q, nI] at e; cases e)⟩
    refine ⟨a₃.fr.offII keep' ⟨_, _, eE, rfl, fun q => by injection q with z; exact absurd z (by decide)⟩ (hsn nE) ⟨_, _, eI, dI, fun q => by rw [cI] at q; injection q with z; exact absurd z (by decide)⟩ (hsn nI), a₃.new, fun x o e n sto => keep' x o (no e).1 (no e).2 (a₃.evo x o e n sto), fun x o e => ?_, ?_⟩
    · obtain ⟨o', e'⟩ := a₃.live x o e
      exact ⟨o', keep' x o' (no e).1 (no e).2 e'⟩
    · obtain ⟨h2, t2, rfl⟩ := a₃.ks
      exact ⟨h', tk, rfl⟩
  by_cases hlt' : i < (enumItems 0 xs).length
  · have hi' : i < its.size := by rw [← hlen]; exact hlt'
    refine Wk.item i s₃ _ _ hi' st₃ fun T vals h₄ tk ⟨t0, x, hx, hvals⟩ hT hTup hMid keep₄ => ?_
    subst hvals
    obtain ⟨z, hz'⟩ : ∃ z, xs[i]? = some z := ⟨_, List.getElem?_eq_getElem (by rw [← ints_len hi]; exact hi')⟩
    obtain ⟨u, hu⟩ := ints_at hi i z hz'
    have hxz : x = .int z u := by
      rw [Array.getElem?_toList, hx] at hu
      exact Option.some.inj hu
    subst hxz
    have hget := enum_get 0 xs i z hz'
    rw [Nat.zero_add] at hget
    have hdrop : (enumItems 0 xs).drop i = .tup [.int (i : Int), .int z] :: (enumItems 0 xs).drop (i + 1) := by
      rw [List.drop_eq_getElem_cons hlt']
      rw [List.getElem?_eq_getElem hlt'] at hget
      rw [Option.some.inj hget]
    rw [hdrop, ← eF] at hf
    refine bind_el hf fun ρ₂ hbd hf => ?_
    obtain ⟨⟨f₁, ρ₃⟩, hex, hf⟩ := bind_of hf
    rw [eF] at hf
    have turn : ∀ E₁ E₂ (h₅ : Heap), ((∃ old, IsEnum h₅ ea ia ((i + 1 : Nat) : Int) old) ∧ h₅.IsListIter ia l (i + 1) ∧ h₅.IsList l its) → (∀ b o, b ∉ [ea, ia] → h₄.get? b = some o → h₅.get? b = some o) → wpAny (model X.x.prog X.x.w) A (assign tgx env (.ref T)) (fun _ s₅ => wpAny (model X.x.prog X.x.w) A (execs bodyx env) (LoopQ (ForII X hs N₀ env k.vars W s₁ (fun i h => (∃ old, IsEnum h ea ia i old) ∧ h.IsListIter ia l i ∧ h.IsList l its) ea ia (enumItems 0 xs) F (fl, ρ')) ((enumItems 0 xs).length - i) Q) E₁ s₅) E₂ { s₃ with heap := h₅, toks := tk } := fun E₁ E₂ h₅ st₅ keep₅ => by
      have a₄ := off h₅ tk fun b o q e => keep₅ b o q (keep₄ b o q e)
      have hTup' : IsTup h₅ T #[.int (i : Int) t0, .int z u] := by
        obtain ⟨o, eo, r⟩ := hTup
        exact ⟨o, keep₅ T o (Wk.apart i T h₄ hMid) eo, r⟩
      refine bind_ok ao.hh EF htg hbd a₄.fr (x := .tup [.int (i : Int), .int z]) ⟨T, _, rfl, hTup', .cons ⟨t0, rfl⟩ (.cons ⟨u, rfl⟩ .nil)⟩ fun s₆ a₆ => ?_
      -- the iterators stay while the frame works
      have stay : ∀ {s s' : Shared} {W₁ : Addr → Prop} {j : Nat}, ((∃ old, IsEnum s.heap ea ia (j : Int) old) ∧ s.heap.IsListIter ia l j ∧ s.heap.IsList l its) → ¬ W₁ ea → ¬ W₁ ia → ¬ W₁ l → Evo W₁ s.heap s'.heap → ((∃ old, IsEnum s'.heap ea ia (j : Int) old) ∧ s'.heap.IsListIter ia l j ∧ s'.heap.IsList l its) := fun st n1 n2 n3 ev => by
        obtain ⟨⟨old, eE⟩, ⟨oI, eI, cI, dI⟩, ll⟩ := st
        refine ⟨⟨old, ev _ _ eE n1 rfl⟩, ⟨oI, ev _ _ eI n2 (by unfold isStore; rw [dI]), cI, dI⟩, list_evo ll n3 ev⟩
      have nl₁ : ¬ W₁ l := fun w => by
        rcases a₃.new l w with q | q
        · exact wl q
        · rw [eol] at q; cases q
      have st₆ := stay st₅ nE₁ nI₁ nl₁ a₆.evo
      refine gb k env ρ₂ hs N₀ W₁ _ f₁ ρ₃ hbody hex EF s₆ _ _ a₆.fr fun f W₂ s₇ a₇ r₇ => ?_
      have a₈ := a₄.trans (a₆.trans a₇)
      cases f₁ with
      | next =>
        obtain rfl := r₇
        have st₇ := stay st₆ nE₁ nI₁ nl₁ a₇.evo
        refine ⟨(enumItems 0 xs).length - (i + 1), by omega, i + 1, ρ₃, W₂, hlt', rfl, hf, st₇, fun w => ?_, fun w => ?_, a₈⟩
        · rcases a₇.new ea w with q | q
          · exact nE₁ q
          · obtain ⟨⟨_, e⟩, _⟩ := st₆; have e : s₆.heap.get? ea = some _ := e; rw [q] at e; cases e
        · rcases a₇.new ia w with q | q
          · exact nI₁ q
          · obtain ⟨_, ⟨_, e, _⟩, _⟩ := st₆; rw [q] at e; cases e
      | brk => cases hf; obtain rfl := r₇; exact fin a₈ rfl
      | ret x => cases hf; obtain ⟨y, rfl, ry⟩ := r₇; exact fin a₈ ⟨y, rfl, ry⟩
    revert turn
    apply o_Tuple_elim htg; intro elts kk pos _ turn
    exact Wk.go elts kk pos i T _ _ _ hMid fun h₅ st₅ keep₅ => turn _ _ h₅ st₅ keep₅
  · obtain rfl : i = (enumItems 0 xs).length := Nat.le_antisymm hle (Nat.not_lt.mp hlt')
    rw [List.drop_length, ← eF] at hf
    cases hf
    refine Wk.done s₃ _ _ (by rw [← hlen]; exact st₃) fun h' tk keep => wpAny_execs_nil (fin (off h' tk keep) rfl)
end
end Mine

end
section
open PySem PySem.W PyProof.Rows
set_option maxRecDepth 100000
set_option maxHeartbeats 1000000
set_option linter.unusedSimpArgs false
set_option linter.unusedVariables false
set_option linter.unusedSectionVars false
namespace Mine
section
variable {X : LX} {A : Around} {cf : Nat → List LV → Option LV} (OK : LOk X) {d : Nat} (ao : AOk A (d + deep + 2)) (hcf : CallLOk X A cf)
include OK ao hcf
omit OK ao hcf in
theorem ts_cons {k : LC} {t : LT} {ts : List LT} {l : List PySem.Expr} (h : trTs X.F k (t :: ts) l = true) : (∃ v n p l', t = .name v ∧ l = .Name n p :: l' ∧ k.isVar v n = true ∧ trTs X.F k ts l' = true) ∨
    (∃ v i n q e p l', t = .sub v i ∧ l = .Subscript (.Name n q) e p :: l' ∧ k.isVar v n = true ∧ plainL e = true ∧ trL X.F k i e = true ∧ trTs X.F k ts l' = true) := by
  apply o_cons_elim h; intro x l h
  refine and_el h fun h1 h2 => ?_
  cases t with
  | name v =>
    left
    apply o_Name_elim h1; intro n p h1
    exact ⟨_, _, _, _, rfl, rfl, h1, h2⟩
  | sub v i =>
    right
    apply o_Subscript_elim h1; intro b e p h1
    apply o_Name_elim h1; intro n q h1
    refine and_el h1 fun h3 h4 => ?_
    refine and_el h3 fun h5 h6 => ?_
    exact ⟨_, _, _, _, _, _, _, rfl, rfl, h5, h6, h4, h2⟩
omit OK ao hcf in
theorem ts_nil {k : LC} {l : List PySem.Expr} (h : trTs X.F k [] l = true) : l = [] := List.isEmpty_iff.mp h
omit OK ao hcf in
theorem ts_len {k : LC} {env : Env} (ts : List LT) : ∀ {l : List PySem.Expr}, trTs X.F k ts l = true → (assignEach l env).length = ts.length ∧ (assignEach l env).findIdx? (·.1) = none := by
  induction ts with
  | nil => intro l h; rw [ts_nil h]; exact ⟨rfl, rfl⟩
  | cons t ts ih =>
    intro l h
    have key : ∃ x l', l = x :: l' ∧ trTs X.F k ts l' = true ∧ assignEach (x :: l') env = (false, assign x env) :: assignEach l' env := by
      rcases ts_cons h with ⟨v, n, p, l', rfl, rfl, h1, h2⟩ | ⟨v, i, n, q, e, p, l', rfl, rfl, h1, hpl, hi, h2⟩
      · exact ⟨_, _, rfl, h2, rfl⟩
      · exact ⟨_, _, rfl, h2, rfl⟩
    obtain ⟨x, l', rfl, h2, e⟩ := key
    obtain ⟨a, b⟩ := ih h2
    rw [e]
    refine ⟨?_, ?_⟩
    · rw [List.length_cons, a]; rfl
    · rw [List.findIdx?_cons, b]; rfl
theorem store_ts {k : LC} {env : Env} {hs : Addr → Option Obj} {N₀ : Addr → Prop} (EF : EnvF env k) (ts : List LT) : ∀ (l : List PySem.Expr) (vs : List LV) (ys : List Value) (ρ ρ' : LLoc) (W : Addr → Prop) (s : Shared) (Q : Unit → Shared → Prop) (E' : Value → Shared → Prop), trTs X.F k ts l = true → storeTs cf vs ts ρ = some ρ' →
    FrR X hs N₀ env k.vars ρ W s.heap → Paired (RV (nn N₀ W) s.heap) vs ys → (∀ s', Aft X hs N₀ env k.vars W s ρ' W s' → Q () s') → wpAny (model X.x.prog X.x.w) A (assignInOrder ((assignEach l env).map (·.2)) ys) Q E' s := by
  induction ts with
  | nil =>
    intro l vs ys ρ ρ' W s Q E' ht hb R pr h
    cases ts_nil ht
    cases pr with
    | nil => cases hb; exact wpAny_pure (h s (.refl R))
    | cons _ _ => cases hb
  | cons t ts ih =>
    intro l vs ys ρ ρ' W s Q E' ht hb R pr h
    cases pr with
    | nil => cases t <;> cases hb
    | cons r pr =>
      rename_i x y vs ys
      rcases ts_cons ht with ⟨v, n, p, l', rfl, rfl, h1, h2⟩ | ⟨v, i, n, q, e, p, l', rfl, rfl, h1, hpl, hi, h2⟩
      · obtain ⟨ρ₁, hp, hb⟩ := bind_of hb
        show wpAny _ A (do holding ys (assign (.Name n p) env y); assignInOrder ((assignEach l' env).map (·.2)) ys) Q E' s
        refine wpAny_bind (wpAny_holding (wpAny_assign_Name (store_val EF R (isVarL_of h1) hp r fun s₁ a₁ => ?_)))
        exact ih l' vs ys ρ₁ ρ' W s₁ Q E' h2 hb a₁.fr (pr.mono fun u y q => a₁.val R q) fun s' a₂ => h s' (a₁.trans a₂)
      · obtain ⟨m, hm, hb⟩ := bind_of hb
        refine bind_el hb fun w hj hb => ?_
        refine bind_el hb fun j hw hb => ?_
        refine bind_el hb fun ρ₁ hps hb => ?_
        obtain ⟨xs, _, hown, _⟩ := putSub_of hps
        obtain ⟨t1, rfl⟩ : ∃ t, y = .int m t := by rw [LV.int?_of hm] at r; exact r
        rw [LV.int?_of hw] at hj
        show wpAny _ A (do holding ys (assign (.Subscript (.Name n q) e p) env (.int m t1)); assignInOrder ((assignEach l' env).map (·.2)) ys) Q E' s
        refine wpAny_bind (wpAny_holding ?_)
        rw [assign_Subscript]
        refine wpAny_bind (wpAny_holding (load_own R.rd EF.el (isVarL_of h1) hown fun a its va wa la ia z => wpAny_bind (wpAny_holding ((sound_L OK ao hcf i).1 k env _ hs N₀ W _ _ hi hj EF.el EF.ko R.len s _ _ R.rd fun yi s₁ ri k₁ => wpAny_bind (wpAny_standAt (wpAny_bind (wpAny_holding ?_)))))))
        obtain ⟨t2, rfl⟩ := ri
        refine sub_store EF (R.grow k₁.grow) (isVarL_of h1) (va.grow k₁.grow) hps fun s₂ a₂ => wpAny_release ?_
        have a₃ := (Aft.of_kg R k₁).trans a₂
        exact ih l' vs ys ρ₁ ρ' W s₂ Q E' h2 hb a₃.fr (pr.mono fun u y q => a₃.val R q) fun s' a₄ => h s' (a₃.trans a₄)
theorem store_ns {k : LC} {env : Env} {hs : Addr → Option Obj} {N₀ : Addr → Prop} (EF : EnvF env k) (ns : List (Nat × Str)) : ∀ (vs : List LV) (ys : List Value) (ρ ρ' : LLoc) (W : Addr → Prop) (s : Shared) (Q : Unit → Shared → Prop) (E' : Value → Shared → Prop), (∀ q ∈ ns, k.vars[q.1]? = some q.2) → storeTs cf vs (ns.map fun q => LT.name q.1) ρ = some ρ' →
    FrR X hs N₀ env k.vars ρ W s.heap → Paired (RV (nn N₀ W) s.heap) vs ys → (∀ s', Aft X hs N₀ env k.vars W s ρ' W s' → Q () s') → wpAny (model X.x.prog X.x.w) A (assignInOrder (ns.map fun q => bindName env q.2) ys) Q E' s := by
  induction ns with
  | nil =>
    intro vs ys ρ ρ' W s Q E' ht hb R pr h
    cases pr with
    | nil => cases hb; exact wpAny_pure (h s (.refl R))
    | cons _ _ => cases hb
  | cons q ns ih =>
    intro vs ys ρ ρ' W s Q E' ht hb R pr h
    cases pr with
    | nil => cases hb
    | cons r pr =>
      rename_i x y vs ys
      refine bind_el hb fun ρ₁ hp hb => ?_
      show wpAny _ A (do holding ys (bindName env q.2 y); assignInOrder (ns.map fun q => bindName env q.2) ys) Q E' s
      refine wpAny_bind (wpAny_holding (wpAny_bindName (store_val EF R (ht q List.mem_cons_self) hp r fun s₁ a₁ => ?_)))
      exact ih vs ys ρ₁ ρ' W s₁ Q E' (fun z hz => ht z (List.mem_cons_of_mem _ hz)) hb a₁.fr (pr.mono fun u y q => a₁.val R q) fun s' a₂ => h s' (a₁.trans a₂)
end
end Mine

end
section
open PySem PySem.W PyProof.Rows
set_option maxRecDepth 100000
set_option maxHeartbeats 1000000
set_option linter.unusedSimpArgs false
set_option linter.unusedVariables false
set_option linter.unusedSectionVars false
namespace Mine
section
variable {X : LX} {hs : Addr → Option Obj} {N₀ : Addr → Prop} {env : Env} {k : LC} {ρ ρ' : LLoc} {W : Addr → Prop} {s : Shared} {A : Around} {E' : Value → Shared → Prop}
end
section
variable {X : LX} {A : Around} {cf : Nat → List LV → Option LV} (OK : LOk X) {d : Nat} (ao : AOk A (d + deep + 2)) (hcf : CallLOk X A cf)
include OK ao hcf
end
end Mine

end
section
open PySem PySem.W PyProof.Rows
set_option maxRecDepth 100000
set_option maxHeartbeats 1000000
set_option linter.unusedSimpArgs false
set_option linter.unusedVariables false
set_option linter.unusedSectionVars false
namespace Mine
noncomputable def lineOf (l : List PySem.Expr) : Nat := (l.head?.map (·.pos.line)).getD 0
noncomputable def nmOf (kind : Str → Option NameKind) (line : Nat) : PySem.Expr → Option Str
  | .Name id pos => if kind id == some .local && pos.line == line then some id else none
  | _ => none
noncomputable def isStar : PySem.Expr → Bool
  | .Starred .. => true
  | _ => false
theorem swapped_eq (l r : List PySem.Expr) (k1 k2 : Nat) (p1 p2 : Pos) (env : Env) : swappedStores [.Tuple l k1 p1] (.Tuple r k2 p2) env =
    (if (!(l.length == 2 || l.length == 3) || r.length != l.length || env.blockKind != .function) = true then pure none else
     if (r.any isStar) = true then pure none else
     if ((l.filterMap (nmOf env.kindOf (lineOf l))).length != l.length || (l.filterMap (nmOf env.kindOf (lineOf l))).eraseDups.length != (l.filterMap (nmOf env.kindOf (lineOf l))).length) = true then pure none else
     if (r.all (foldedForSure 8)) = true then pure none else
     if (r.all (constantsAlone 8)) = true then (unsupported "assign.tuple-of-constant-expressions:order-of-the-stores" >>= fun _ : Unit => pure (some (l.filterMap (nmOf env.kindOf (lineOf l))))) else pure (some (l.filterMap (nmOf env.kindOf (lineOf l))))) := by
  have e1 : nmOf env.kindOf (lineOf l) = (fun | .Name id pos => if env.kindOf id == some .local && pos.line == lineOf l then some id else none | _ => none) := by funext x; cases x <;> rfl
  have e2 : isStar = (fun | .Starred .. => true | _ => false) := by funext x; cases x <;> rfl
  rw [e1, e2]
  rfl
theorem back_eq (k : LC) (l r : List PySem.Expr) : backwards k l r =
    (match !(l.length == 2 || l.length == 3) || r.length != l.length with
    | true => some false
    | false => match r.any isStar with
      | true => none
      | false => match (l.filterMap (nmOf (k.names.lookup ·) (lineOf l))).length != l.length || (l.filterMap (nmOf (k.names.lookup ·) (lineOf l))).eraseDups.length != (l.filterMap (nmOf (k.names.lookup ·) (lineOf l))).length with
        | true => some false
        | false => match r.all (foldedForSure 8) with
          | true => some false
          | false => match r.all (constantsAlone 8) with
            | true => none
            | false => some true) := by
  have e1 : nmOf (k.names.lookup ·) (lineOf l) = (fun | .Name id pos => if k.names.lookup id == some .local && pos.line == lineOf l then some id else none | _ => none) := by funext x; cases x <;> rfl
  have e2 : isStar = (fun | .Starred .. => true | _ => false) := by funext x; cases x <;> rfl
  rw [e1, e2]
  rfl
theorem swapped_of {k : LC} {env : Env} (EF : EnvF env k) {l r : List PySem.Expr} {k1 k2 : Nat} {p1 p2 : Pos} {b : Bool} (h : backwards k l r = some b) :
    swappedStores [.Tuple l k1 p1] (.Tuple r k2 p2) env = pure (match b with | true => some (l.filterMap (nmOf (k.names.lookup ·) (lineOf l))) | false => none) ∧ (b = true → (l.filterMap (nmOf (k.names.lookup ·) (lineOf l))).length = l.length) := by
  have hk : env.kindOf = (k.names.lookup ·) := by funext n; show env.scope.names.lookup n = _; rw [← EF.names]
  have hb : env.blockKind = .function := by unfold Env.blockKind; rw [EF.el.kind]; rfl
  rw [back_eq] at h
  rw [swapped_eq, hk, hb]
  have z : ((ScopeKind.function : ScopeKind) != ScopeKind.function) = false := rfl
  rw [z, Bool.or_false]
  split at h
  · rename_i q; cases h; rw [if_pos q]; exact ⟨rfl, fun q => by cases q⟩
  · rename_i q
    rw [if_neg (by rw [q]; exact Bool.false_ne_true)]
    split at h
    · cases h
    · rename_i q2
      rw [if_neg (by rw [q2]; exact Bool.false_ne_true)]
      split at h
      · rename_i q3; cases h; rw [if_pos q3]; exact ⟨rfl, fun q => by cases q⟩
      · rename_i q3
        rw [if_neg (by rw [q3]; exact Bool.false_ne_true)]
        split at h
        · rename_i q4; cases h; rw [if_pos q4]; exact ⟨rfl, fun q => by cases q⟩
        · rename_i q4
          rw [if_neg (by rw [q4]; exact Bool.false_ne_true)]
          split at h
          · cases h
          · rename_i q5
            cases h
            rw [if_neg (by rw [q5]; exact Bool.false_ne_true)]
            refine ⟨rfl, fun _ => ?_⟩
            have := (Bool.or_eq_false_iff.mp q3).1
            simpa using this
theorem filterMap_len {α β : Type} {f : α → Option β} : ∀ {l : List α}, (l.filterMap f).length ≤ l.length
  | [] => Nat.le_refl _
  | a :: l => by
    rw [List.filterMap_cons]
    split
    · exact Nat.le_succ_of_le filterMap_len
    · exact Nat.succ_le_succ filterMap_len
theorem names_of {X : LX} {k : LC} {line : Nat} : ∀ (ts : List LT) (l : List PySem.Expr), trTs X.F k ts l = true → (l.filterMap (nmOf (k.names.lookup ·) line)).length = l.length →
    ∃ ns : List (Nat × Str), ts = ns.map (fun q => LT.name q.1) ∧ l.filterMap (nmOf (k.names.lookup ·) line) = ns.map (·.2) ∧ ∀ q ∈ ns, k.vars[q.1]? = some q.2
  | [], [], _, _ => ⟨[], rfl, rfl, fun _ h => nomatch h⟩
  | t :: ts, l, h, hl => by
    rcases ts_cons h with ⟨v, n, p, l', rfl, rfl, h1, h2⟩ | ⟨v, i, n, q, e, p, l', rfl, rfl, h1, hpl, hi, h2⟩
    · rw [List.filterMap_cons] at hl
      split at hl
      · exfalso
        have := filterMap_len (f := nmOf (k.names.lookup ·) line) (l := l')
        rw [List.length_cons] at hl
        lia
      · rename_i b hb
        obtain ⟨ns, e1, e2, e3⟩ := names_of ts l' h2 (by simpa using hl)
        have hbn : b = n := by
          have hb' : (if (k.names.lookup n == some .local && p.line == line) = true then some n else none) = some b := hb
          split at hb'
          · cases hb'; rfl
          · cases hb'
        subst hbn
        refine ⟨(v, b) :: ns, by rw [e1]; rfl, by rw [List.filterMap_cons, hb, e2]; rfl, fun q hq => ?_⟩
        rcases List.mem_cons.mp hq with rfl | hq
        · exact isVarL_of h1
        · exact e3 q hq
    · exfalso
      rw [List.filterMap_cons] at hl
      have : nmOf (k.names.lookup ·) line (.Subscript (.Name n q) e p) = none := rfl
      rw [this] at hl
      have := filterMap_len (f := nmOf (k.names.lookup ·) line) (l := l')
      dsimp only at hl
      rw [List.length_cons] at hl
      lia
  | [], _ :: _, h, _ => by cases ts_nil h
theorem paired_rev {α β : Type} {F : α → β → Prop} : ∀ {l₁ : List α} {l₂ : List β}, Paired F l₁ l₂ → Paired F l₁.reverse l₂.reverse
  | _, _, .nil => .nil
  | _, _, .cons r p => by rw [List.reverse_cons, List.reverse_cons]; exact (paired_rev p).snoc r
section
variable {X : LX} {A : Around} {cf : Nat → List LV → Option LV} (OK : LOk X) {d : Nat} (ao : AOk A (d + deep + 2)) (hcf : CallLOk X A cf)
theorem storeTs_len : ∀ {vs : List LV} {ts : List LT} {ρ ρ' : LLoc}, storeTs cf vs ts ρ = some ρ' → vs.length = ts.length
  | [], [], _, _, _ => rfl
  | x :: vs, .name v :: ts, ρ, ρ', h => by
    refine bind_el h fun _ _ h => ?_
    exact congrArg (· + 1) (storeTs_len h)
  | x :: vs, .sub v i :: ts, ρ, ρ', h => by
    refine bind_el h fun _ _ h => ?_
    refine bind_el h fun _ _ h => ?_
    refine bind_el h fun _ _ h => ?_
    refine bind_el h fun _ _ h => ?_
    exact congrArg (· + 1) (storeTs_len h)
  | [], .name _ :: _, _, _, h => nomatch h
  | [], .sub _ _ :: _, _, _, h => nomatch h
  | _ :: _, [], _, _, h => nomatch h
include OK ao hcf
theorem s_asgT (rev : Bool) (ts : List LT) (es : LEs) : GoodSt X A cf (.asgT rev ts es) := by
  intro k env ρ hs N₀ W t fl ρ' ht he EF s Q E' R h
  refine inv_trLS_asgT ht fun l0 k0 p0 r0 k1 p1 _ hx₀ ht => ?_
  subst hx₀
  refine and_el ht fun ht hbk => ?_
  refine and_el ht fun ht hne => ?_
  refine and_el ht fun ht hes => ?_
  refine and_el ht fun hts hst => ?_
  refine bind_el he fun vs hvs he => ?_
  obtain ⟨ρ₁, hp, e'⟩ := map_of he
  cases e'
  obtain ⟨hsw, hln⟩ := swapped_of EF (beq_iff_eq.mp hbk)
  obtain ⟨tl1, tl2⟩ := ts_len (X := X) (env := env) _ hts
  have hz : ts.length ≤ sizeLine := Nat.le_trans (Nat.le_of_ble_eq_true hne) (by rw [sizeLine_eq]; decide)
  have vlen : vs.length = ts.length := by
    cases rev with
    | false => exact storeTs_len hp
    | true => have := storeTs_len hp; simpa using this
  -- the tuple of the values
  have tup : ∀ {Q' : Value → Shared → Prop} {E'}, (∀ (ys : List Value) (s₂ : Shared) (a : Addr), Paired (RV (nn N₀ W) s₂.heap) vs ys → Kg s s₂ → IsTup s₂.heap a ys.toArray → Q' (.ref a) s₂) → wpAny (model X.x.prog X.x.w) A (eval (.Tuple r0 k1 p1) env) Q' E' s := fun hq =>
    wpAny_Tuple (sound_Ls OK ao hcf es k env ρ hs N₀ W _ vs _ hes hvs EF.el EF.ko R.len s _ _ R.rd fun ys s₁ p k₁ => ⟨by rw [← p.length, vlen]; exact hz,
      hq ys _ _ (p.mono fun u y q => (q.unfl hst).grow (Kg.push' (s := s₁)).grow) (k₁.trans .push') ⟨_, Heap.get?_push_size _ rfl, rfl, _, rfl⟩⟩)
  cases rev with
  | false =>
    refine Assign_Tuple (tup fun ys s₂ a p k₂ it => ?_) rfl hsw
    refine wpAny_assign_Tuple ao.hh it (by rw [tl1, List.size_toArray, ← p.length, vlen]) tl2 fun h' ex => ?_
    have k₃ := k₂.trans (ext_kg ex)
    exact store_ts OK ao hcf EF ts _ vs _ ρ _ W _ _ _ hts hp (R.grow k₃.grow) (p.mono fun u y q => q.grow (ext_kg ex).grow) fun s' b => h _ _ s' ((Aft.of_kg R k₃).trans b) rfl
  | true =>
    obtain ⟨ns, e1, e2, e3⟩ := names_of ts _ hts (hln rfl)
    subst e1
    dsimp only at hsw
    rw [e2] at hsw
    refine Assign_Tuple_swapped (tup fun ys s₂ a p k₂ it => ?_) rfl hsw
    have hnl : (ns.map (·.2)).length = ys.toArray.size := by rw [List.length_map, List.size_toArray, ← p.length, vlen, List.length_map]
    rw [hnl]
    refine wpAny_unpackItems_tuple ao.hh it fun h' ex => ?_
    have k₃ := k₂.trans (ext_kg ex)
    have em : (ns.map (·.2)).reverse.map (fun n => bindName env n) = ns.reverse.map (fun q => bindName env q.2) := by rw [← List.map_reverse, List.map_map]; rfl
    rw [em]
    exact store_ns OK ao hcf EF ns.reverse vs.reverse _ ρ _ W _ _ _ (fun q hq => e3 q (List.mem_reverse.mp hq)) (by rw [List.map_reverse]; exact hp) (R.grow k₃.grow) (paired_rev (p.mono fun u y q => q.grow (ext_kg ex).grow)) fun s' b => h _ _ s' ((Aft.of_kg R k₃).trans b) rfl
end
end Mine

end
section
open PySem PySem.W PyProof.Rows
set_option maxRecDepth 100000
set_option maxHeartbeats 1000000
set_option linter.unusedSimpArgs false
set_option linter.unusedVariables false
set_option linter.unusedSectionVars false
namespace Mine
section
variable {X : LX} {A : Around} {cf : Nat → List LV → Option LV} (OK : LOk X) {d : Nat} (ao : AOk A (d + deep + 2)) (hcf : CallLOk X A cf)
include OK ao hcf
theorem store_t1 {k : LC} {env : Env} {hs : Addr → Option Obj} {N₀ : Addr → Prop} (EF : EnvF env k) {m : Int} {t1 : Tok} {t : LT} {ts : List LT} {l : List PySem.Expr} {vs : List LV} {ρ ρ' : LLoc} (ht : trTs X.F k (t :: ts) l = true) (hb : storeTs cf (LV.int m :: vs) (t :: ts) ρ = some ρ') :
    ∃ x l' ρ₁, l = x :: l' ∧ trTs X.F k ts l' = true ∧ storeTs cf vs ts ρ₁ = some ρ' ∧ assignEach (x :: l') env = (false, assign x env) :: assignEach l' env ∧
      ∀ (W : Addr → Prop) (s : Shared) (Q : Unit → Shared → Prop) (E' : Value → Shared → Prop), FrR X hs N₀ env k.vars ρ W s.heap → (∀ s₁, Aft X hs N₀ env k.vars W s ρ₁ W s₁ → Q () s₁) → wpAny (model X.x.prog X.x.w) A (assign x env (.int m t1)) Q E' s := by
  rcases ts_cons ht with ⟨v, n, p, l', rfl, rfl, h1, h2⟩ | ⟨v, i, n, q, e, p, l', rfl, rfl, h1, hpl, hi, h2⟩
  · obtain ⟨ρ₁, hp, hb⟩ := bind_of hb
    exact ⟨_, _, ρ₁, rfl, h2, hb, rfl, fun W s Q E' R h => wpAny_assign_Name (store_val EF R (isVarL_of h1) hp ⟨t1, rfl⟩ h)⟩
  · obtain ⟨m', hm, hb⟩ := bind_of hb
    cases hm
    refine bind_el hb fun w hj hb => ?_
    refine bind_el hb fun j hw hb => ?_
    refine bind_el hb fun ρ₁ hps hb => ?_
    obtain ⟨xs, _, hown, _⟩ := putSub_of hps
    rw [LV.int?_of hw] at hj
    refine ⟨_, _, ρ₁, rfl, h2, hb, rfl, fun W s Q E' R h => ?_⟩
    rw [assign_Subscript]
    refine wpAny_bind (wpAny_holding (load_own R.rd EF.el (isVarL_of h1) hown fun a its va wa la ia z => wpAny_bind (wpAny_holding ((sound_L OK ao hcf i).1 k env _ hs N₀ W _ _ hi hj EF.el EF.ko R.len s _ _ R.rd fun yi s₁ ri k₁ => wpAny_bind (wpAny_standAt (wpAny_bind (wpAny_holding ?_)))))))
    obtain ⟨t2, rfl⟩ := ri
    exact sub_store EF (R.grow k₁.grow) (isVarL_of h1) (va.grow k₁.grow) hps fun s₂ a₂ => wpAny_release (h s₂ ((Aft.of_kg R k₁).trans a₂))
theorem store_all {k : LC} {env : Env} {hs : Addr → Option Obj} {N₀ : Addr → Prop} (EF : EnvF env k) {m : Int} {t1 : Tok} (ts : List LT) : ∀ (t : LT) (l : List PySem.Expr) (ρ ρ' : LLoc) (W : Addr → Prop) (s : Shared) (Q : Unit → Shared → Prop) (E' : Value → Shared → Prop), trTs X.F k (t :: ts) l = true → storeTs cf (List.replicate (t :: ts).length (LV.int m)) (t :: ts) ρ = some ρ' →
    FrR X hs N₀ env k.vars ρ W s.heap → (∀ s', Aft X hs N₀ env k.vars W s ρ' W s' → Q () s') → wpAny (model X.x.prog X.x.w) A (assignAll (.int m t1) ((assignEach l env).map (·.2))) Q E' s := by
  induction ts with
  | nil =>
    intro t l ρ ρ' W s Q E' ht hb R h
    obtain ⟨x, l', ρ₁, rfl, h2, hb, e, key⟩ := store_t1 OK ao hcf (t1 := t1) EF ht hb
    cases ts_nil h2
    cases hb
    rw [e]
    exact key W s Q E' R h
  | cons u ts ih =>
    intro t l ρ ρ' W s Q E' ht hb R h
    obtain ⟨x, l', ρ₁, rfl, h2, hb, e, key⟩ := store_t1 OK ao hcf (t1 := t1) EF ht hb
    obtain ⟨y, l'', _, rfl, _, _, e2, _⟩ := store_t1 OK ao hcf (t1 := t1) (hs := hs) (N₀ := N₀) EF h2 hb
    have a : ∀ s₁, Aft X hs N₀ env k.vars W s ρ₁ W s₁ → wpAny (model X.x.prog X.x.w) A (assignAll (.int m t1) ((assignEach (y :: l'') env).map (·.2))) Q E' s₁ := fun s₁ a₁ => ih u (y :: l'') ρ₁ ρ' W s₁ Q E' h2 hb a₁.fr fun s' a₂ => h s' (a₁.trans a₂)
    rw [e]
    rw [e2] at a ⊢
    exact wpAny_bind (wpAny_holding (key W s _ E' R a))
theorem s_asgN (ts : List LT) (e : LE) : GoodSt X A cf (.asgN ts e) := by
  intro k env ρ hs N₀ W t fl ρ' ht he EF s Q E' R h
  refine inv_trLS_asgN ht fun l x y1 hx₀ ht => ?_
  subst hx₀
  refine and_el ht fun ht hx => ?_
  refine and_el ht fun hl hts => ?_
  have hl := Nat.le_of_ble_eq_true hl
  refine bind_el he fun u hev he => ?_
  refine bind_el he fun m hu he => ?_
  obtain ⟨ρ₁, hp, e'⟩ := map_of he
  cases e'
  cases LV.int?_of hu
  obtain ⟨t, ts, rfl⟩ : ∃ t ts', ts = t :: ts' := by
    cases ts with
    | nil => exact absurd hl (by decide)
    | cons t ts => exact ⟨t, ts, rfl⟩
  obtain ⟨t2, ts, rfl⟩ : ∃ t ts', ts = t :: ts' := by
    cases ts with
    | nil => exact absurd hl (by show ¬ 2 ≤ 1; decide)
    | cons t ts => exact ⟨t, ts, rfl⟩
  have sh : ∃ a b r, l = a :: b :: r ∧ swappedStores l x env = pure none := by
    rcases ts_cons hts with ⟨_, _, _, _, _, rfl, _, h2⟩ | ⟨_, _, _, _, _, _, _, _, rfl, _, _, _, h2⟩ <;> rcases ts_cons h2 with ⟨_, _, _, _, _, rfl, _, _⟩ | ⟨_, _, _, _, _, _, _, _, rfl, _, _, _, _⟩ <;> exact ⟨_, _, _, rfl, rfl⟩
  obtain ⟨a, b, r, rfl, hsw⟩ := sh
  refine wpAny_Assign_stores ((sound_L OK ao hcf e).1 k env ρ hs N₀ W _ _ hx hev EF.el EF.ko R.len s _ _ R.rd fun y s₁ ry k₁ => ?_) rfl hsw
  obtain ⟨t1, rfl⟩ := ry
  exact store_all OK ao hcf EF (t2 :: ts) t _ ρ _ W s₁ _ _ hts hp (R.grow k₁.grow) fun s' a₂ => h _ _ s' ((Aft.of_kg R k₁).trans a₂) rfl
end
end Mine

end
section
open PySem PySem.W PyProof.Rows
set_option maxRecDepth 100000
set_option maxHeartbeats 1000000
set_option linter.unusedSimpArgs false
set_option linter.unusedVariables false
set_option linter.unusedSectionVars false
namespace Mine
section
variable {X : LX} {A : Around} {cf : Nat → List LV → Option LV} (OK : LOk X) {d : Nat} (ao : AOk A (d + deep + 2)) (hcf : CallLOk X A cf)
include OK ao hcf
mutual
theorem sound_St : ∀ st : LS, GoodSt X A cf st
  | .asg v e => s_asg OK ao hcf v e
  | .asgC v e => s_asgC OK ao hcf v e
  | .newl v e => s_newl OK ao hcf v e
  | .asgT rev ts es => s_asgT OK ao hcf rev ts es
  | .sub v i e => s_sub OK ao hcf v i e
  | .asgN ts e => s_asgN OK ao hcf ts e
  | .aug v op e => s_aug OK ao hcf v op e
  | .step v m => s_step OK ao v m
  | .mk v mv e => s_mk OK ao hcf v mv e
  | .ite t a b => s_ite OK ao hcf (sound_Sts a) (sound_Sts b)
  | .for tg src b => s_for OK ao hcf (sound_Sts b)
  | .forE vs e b => s_forE OK ao hcf (sound_Sts b)
  | .brk => s_brk
  | .ret e => s_ret OK ao hcf e
theorem sound_Sts : ∀ st : LSs, GoodSts X A cf st
  | .nil => ss_nil
  | .cons s r => ss_cons (sound_St s) (sound_Sts r)
end
end
end Mine

end
section
open PySem PySem.W PyProof.Rows
set_option maxRecDepth 100000
set_option maxHeartbeats 1000000
set_option linter.unusedSimpArgs false
set_option linter.unusedVariables false
set_option linter.unusedSectionVars false
namespace Mine
structure FDok (X : LX) (fdt : FuncData) (fd : FnD) : Prop where
  body : ∃ b, fdt.body = .stmts b ∧ trLSs X.x.c X.F ⟨fdt.scope.names, fd.vars⟩ fd.body b = true
  kind : fdt.scope.kind = .function
  gen : fdt.scope.isGenerator = false
  co : fdt.scope.isCoroutine = false
  clo : fdt.closure = []
  glob : fdt.globals = mainGlobals
  blt : fdt.builtins = builtinsNs
  bind : ∀ vals : List Value, vals.length = fd.np → bindArgs fdt ⟨vals, []⟩ = pure ((fd.vars.take fd.np).zip vals)
  nodup : fd.vars.Nodup
  nodbg : ∀ v ∈ fd.vars, (v == ("__debug__" : Str)) = false
  npLe : fd.np ≤ fd.vars.length
  kinds : ∀ n ∈ fd.vars, fdt.scope.names.lookup n = some .local ∨ fdt.scope.names.lookup n = some .cell
theorem bindL_miss {kindOf : Str → Option NameKind} {n : Str} : ∀ (l : List (Str × Value)) (m : Str → Option Value), n ∉ l.map (·.1) → bindL kindOf l m n = m n
  | [], m, _ => rfl
  | (a, v) :: r, m, h => by
    rw [List.map_cons, List.mem_cons, not_or] at h
    unfold bindL
    rw [bindL_miss r _ h.2]
    split
    · show (if n = a then some v else m n) = m n; rw [if_neg h.1]
    · rfl
theorem bindC_miss {kindOf : Str → Option NameKind} {n : Str} : ∀ (l : List (Str × Value)) (m : Str → Option Value), n ∉ l.map (·.1) → bindC kindOf l m n = m n
  | [], m, _ => rfl
  | (a, v) :: r, m, h => by
    rw [List.map_cons, List.mem_cons, not_or] at h
    unfold bindC
    rw [bindC_miss r _ h.2]
    split
    · rfl
    · show (if n = a then some v else m n) = m n; rw [if_neg h.1]
theorem bind_hit {kindOf : Str → Option NameKind} {n : Str} {v : Value} : ∀ (l : List (Str × Value)) (m cm : Str → Option Value), (l.map (·.1)).Nodup → (n, v) ∈ l → (kindOf n = some .local → bindL kindOf l m n = some v) ∧ (kindOf n ≠ some .local → bindC kindOf l cm n = some v)
  | (a, u) :: r, m, cm, nd, h => by
    rw [List.map_cons, List.nodup_cons] at nd
    rcases List.mem_cons.mp h with e | h
    · cases e
      constructor
      · intro k
        unfold bindL
        rw [if_pos k, bindL_miss r _ nd.1]
        exact if_pos rfl
      · intro k
        unfold bindC
        rw [if_neg k, bindC_miss r _ nd.1]
        exact if_pos rfl
    · unfold bindL bindC
      exact bind_hit r _ _ nd.2 h
section
variable {X : LX} (OK : LOk X)
include OK in
theorem run_fn {A : Around} {cf : Nat → List LV → Option LV} {d : Nat} (ao : AOk A (d + deep + 3)) (hcf : ∀ A' : Around, AOk A' (d + deep + 2) → CallLOk X A' cf) {fdt : FuncData} {fd : FnD} (S : FDok X fdt fd) {s : Shared} {a : Addr} {o : Obj} (ho : s.heap.get? a = some o) (hd : o.data = .func fdt) (hlim : s.heap.NoLimit) (hcd : s.heap.CodeRec fdt.code fdt.qualname)
    {args : List LV} {vals : List Value} {N : Addr → Prop} {fl : LFl} {ρ' : LLoc} (hlen : args.length = fd.np) (hstab : args.all stable = true) (he : exLs X.x.c X.im X.fuel cf fd.body (args.map some ++ List.replicate (fd.vars.length - fd.np) none) = some (fl, ρ')) (hfl : fl ≠ .brk)
    (hb : ∀ b o, X.x.h₀.get? b = some o → s.heap.get? b = some o) (ln : Lists N s.heap) (p : Paired (RV N s.heap) args vals) {R : Result → Shared → Prop}
    (post : ∀ y s', (match fl with | .ret v => RV N s'.heap v y | _ => y = .none) → Kg s s' → R (.ok (.ret y)) s') : codeAny (model X.x.prog X.x.w) A (.call (.ref a) ⟨vals, []⟩) R s := by
  obtain ⟨b, hbody, htr⟩ := S.body
  have vlen : vals.length = fd.np := by rw [← p.length]; exact hlen
  have zmap : ((fd.vars.take fd.np).zip vals).map (·.1) = fd.vars.take fd.np := List.map_fst_zip (by rw [vlen, List.length_take]; exact Nat.min_le_left _ _)
  have znd : (((fd.vars.take fd.np).zip vals).map (·.1)).Nodup := by rw [zmap]; exact (List.take_sublist _ _).nodup S.nodup
  have kc : ∀ n ∈ fd.vars, ∀ L, fdt.scope.names.lookup n = some .local ∨ (fdt.scope.names.lookup n = some .cell ∧ ((cellsFrom L fdt.scope.names []).lookup n).isSome = true) := fun n hn L => by
    rcases S.kinds n hn with q | q
    · exact .inl q
    · exact .inr ⟨q, cellsFrom_some _ _ _ (.inl q)⟩
  refine codeAny_call_cells (by have := ao.dp; lia) ho hd hlim hcd hbody (S.bind vals vlen) S.clo (fun x hx => kc _ (List.mem_of_mem_take (List.of_mem_zip hx).1) _) (fun s₁ I => ?_) S.co S.gen S.kind
  have EF : EnvF (callEnvC fdt s.heap.objs.size a) ⟨fdt.scope.names, fd.vars⟩ := by
    refine ⟨⟨S.kind, S.glob, S.blt, S.nodbg⟩, ⟨fun n h => h, fun n h => ⟨h, Option.isSome_iff_exists.mp (cellsFrom_some _ _ _ (.inl h))⟩⟩, S.nodup, I.apart, fun n hn => ?_, rfl⟩
    rcases kc n hn (s.heap.objs.size + 1) with q | ⟨q, q'⟩
    · exact .inl q
    · exact .inr ⟨q, Option.isSome_iff_exists.mp q'⟩
  have ao' : AOk (A.deeper (callEnvC fdt s.heap.objs.size a)) (d + deep + 2) := AOk.deeper (d := d + deep + 2) ao
  have gr := I.toInCall.keep
  have fresh : ∀ b, s.heap.objs.size ≤ b → s.heap.get? b = none := fun b hb => by
    cases q : s.heap.get? b with
    | none => rfl
    | some o => exact absurd (Heap.lt_size q) (Nat.not_lt.mpr hb)
  have FR : FrR X (fun b => s.heap.get? b) N (callEnvC fdt s.heap.objs.size a) fd.vars (args.map some ++ List.replicate (fd.vars.length - fd.np) none) (fun _ => False) s₁.heap := by
    have atA : ∀ i v, LLoc.at (args.map some ++ List.replicate (fd.vars.length - fd.np) none) i = some v → args[i]? = some v := fun i v q => by
      unfold LLoc.at at q
      by_cases z : i < args.length
      · rw [List.getElem?_append_left (by rw [List.length_map]; exact z), List.getElem?_map] at q
        cases w : args[i]? with
        | none => rw [w] at q; cases q
        | some u => rw [w] at q; simpa using q
      · rw [List.getElem?_append_right (by rw [List.length_map]; lia), List.getElem?_replicate] at q
        split at q <;> cases q
    have stA : ∀ i v, LLoc.at (args.map some ++ List.replicate (fd.vars.length - fd.np) none) i = some v → stable v = true := fun i v q => List.all_eq_true.mp hstab v (List.mem_of_getElem? (atA i v q))
    refine ⟨⟨fun b o e => gr b o (hb b o e), fun b w => ?_, fun i n v hi hv => ?_, fun i n σ mv hi hv => ?_⟩, fun b o e => hb b o e, fun b o e => gr b o e, fun _ w => w.elim, fresh _ (Nat.le_refl _), ⟨_, I.toInCall.ns⟩, fun n c hc => ⟨fresh _ (Nat.le_trans I.toInCall.fresh (Nat.le_of_lt (I.above n c (mem_of_lookup hc)))), _, I.cell n c hc⟩, fun i j ni nj u v a h1 h2 h3 _ o1 => ?_, fun i j ni nj σ τ m n I J D _ _ h3 => ?_, ?_, fun b w q => by obtain ⟨its, o, _, e, _⟩ := ln b w; rw [show s.heap.get? b = none from q] at e; cases e⟩
    · rcases w with w | w
      · obtain ⟨its, l⟩ := ln b w; exact ⟨its, l.keeps gr⟩
      · exact w.elim
    · have hargs := atA i v hv
      have hil : i < fd.np := by rw [← hlen]; exact (List.getElem?_eq_some_iff.mp hargs).1
      have pat : ∀ {l₁ : List LV} {l₂ : List Value}, Paired (RV N s.heap) l₁ l₂ → ∀ (i : Nat) (v : LV), l₁[i]? = some v → ∃ y, l₂[i]? = some y ∧ RV N s.heap v y := by
        intro l₁ l₂ p
        induction p with
        | nil => intro i v h; simp at h
        | cons r _ ih =>
          intro i v h
          cases i with
          | zero => simp at h; subst h; exact ⟨_, rfl, r⟩
          | succ i => simpa using ih i v (by simpa using h)
      obtain ⟨y, hy, ry⟩ := pat p i v hargs
      have hmem : (n, y) ∈ (fd.vars.take fd.np).zip vals := by
        refine List.mem_of_getElem? (i := i) ?_
        rw [List.getElem?_zip_eq_some]
        exact ⟨by rw [List.getElem?_take_of_lt hil]; exact hi, hy⟩
      obtain ⟨hL, hC⟩ := bind_hit (kindOf := (callEnvC fdt s.heap.objs.size a).kindOf) _ (fun _ => none) (fun _ => none) znd hmem
      refine ⟨y, ?_, RV.var ((ry.weak fun b _ q => by rcases q with q | q; exact q; exact q.elim).grow gr)⟩
      rcases EF.kinds n (List.mem_of_getElem? hi) with q | ⟨q, c, hc⟩
      · exact .inl ⟨q, _, I.toInCall.ns, hL q⟩
      · have ic := I.cell n c hc
        rw [hC (by rw [q]; decide)] at ic
        exact .inr ⟨q, c, hc, ic⟩
    · have := stA i _ hv; cases this
    · have := stA i _ h3; cases u <;> first | exact absurd o1 Bool.false_ne_true | exact absurd this Bool.false_ne_true
    · have := stA i _ h3; cases this
    · have := S.npLe
      simp only [List.length_append, List.length_map, List.length_replicate]
      lia
  refine sound_Sts OK ao' (hcf _ ao') fd.body ⟨fdt.scope.names, fd.vars⟩ _ _ _ N _ b fl ρ' htr he EF s₁ _ _ FR fun f W' s' af r => ?_
  have kg : Kg s s' := by
    obtain ⟨h1, t1, rfl⟩ := I.toInCall.same
    obtain ⟨h2, t2, rfl⟩ := af.ks
    exact ⟨h2, t2, rfl, af.fr.hb⟩
  cases fl with
  | next => obtain rfl := r; exact post _ s' rfl kg
  | brk => exact absurd rfl hfl
  | ret v =>
    obtain ⟨y, rfl, ry⟩ := r
    exact post _ s' ry kg
structure FnsOk (X : LX) : Prop where
  fn : ∀ (f : Nat) (fd : FnD), X.F[f]? = some fd → X.mg fd.nm = some (.ref (X.fA f)) ∧ (fd.nm == ("__debug__" : Str)) = false ∧ ∃ o fdt, X.x.h₀.get? (X.fA f) = some o ∧ o.data = .func fdt ∧ FDok X fdt fd ∧ X.x.h₀.CodeRec fdt.code fdt.qualname
  lim : X.x.h₀.NoLimit
include OK in
theorem sound_callL (FO : FnsOk X) : ∀ (j : Nat) (A : Around), AOk A (j + deep + 2) → CallLOk X A (callL X.x.c X.im X.fuel X.F j)
  | 0, A, _ => fun f args v h => nomatch h
  | j + 1, A, ao => fun f args v h => by
    refine bind_el h fun fd hF h => ?_
    obtain ⟨hl, h⟩ := ite_of h
    obtain ⟨⟨fl, ρ'⟩, hx, h⟩ := bind_of h
    obtain ⟨h1, h2, o, fdt, h3, h4, h5, h6⟩ := FO.fn f fd hF
    refine ⟨fd, hF, h1, h2, ⟨o, fdt, h3, h4⟩, fun s N vals R hb ln p post => ?_⟩
    have ao' : AOk A (j + deep + 3) := by rwa [show j + 1 + deep + 2 = j + deep + 3 by lia] at ao
    refine run_fn OK ao' (fun A' a' => sound_callL FO j A' a') h5 (hb _ _ h3) h4 (FO.lim.keeps hb) (h6.keeps hb) hl.1 hl.2 hx (fun q => by subst q; cases h) hb ln p fun y s' r k => ?_
    cases fl with
    | next => cases h; exact post y s' r k
    | brk => cases h
    | ret u =>
      obtain ⟨_, e⟩ := cond_of h
      cases e
      exact post y s' r k
end
end Mine

end
section
open PySem PySem.W PyProof.Rows
set_option maxRecDepth 100000
set_option maxHeartbeats 1000000
set_option linter.unusedSimpArgs false
set_option linter.unusedVariables false
namespace Mine
noncomputable def plainArgs (fd : FuncData) (names : List Str) : Bool :=
  fd.params.posonlyargs.isEmpty && fd.params.vararg.isNone && fd.params.kwonlyargs.isEmpty && fd.params.kwarg.isNone && fd.defaults == .none && fd.params.args.map (·.arg) == names
theorem zip_lookup {β : Type} : ∀ {ns : List Str} {vs : List β}, vs.length = ns.length → ∀ n ∈ ns, ((ns.zip vs).lookup n).isSome = true
  | a :: ns, v :: vs, hl, n, hn => by
    rw [List.zip_cons_cons, List.lookup_cons]
    cases e : n == a with
    | true => rfl
    | false =>
      rcases List.mem_cons.mp hn with q | q
      · rw [q] at e; simp at e
      · exact zip_lookup (by simpa using hl) n q
  | _ :: _, [], hl, _, _ => by cases hl
theorem zip_filterMap {β : Type} : ∀ {ns : List Str} {vs : List β}, vs.length = ns.length → ns.Nodup → ns.filterMap (fun n => ((ns.zip vs).lookup n).map (n, ·)) = ns.zip vs := by
  have go : ∀ (pre : List (Str × β)) (ns : List Str) (vs : List β), vs.length = ns.length → (∀ x ∈ pre, x.1 ∉ ns) → ns.Nodup → ns.filterMap (fun n => ((pre ++ ns.zip vs).lookup n).map (n, ·)) = ns.zip vs := by
    intro pre ns
    induction ns generalizing pre with
    | nil => intro vs hl _ _; cases vs <;> rfl
    | cons a ns ih =>
      intro vs hl hp nd
      cases vs with
      | nil => cases hl
      | cons v vs =>
        rw [List.nodup_cons] at nd
        have hpre : pre.lookup a = none := by
          rw [List.lookup_eq_none_iff]
          intro x hx
          have := hp x hx
          rw [List.mem_cons, not_or] at this
          simp [Ne.symm this.1]
        rw [List.filterMap_cons, List.zip_cons_cons, List.lookup_append, hpre, Option.none_or, List.lookup_cons, beq_self_eq_true]
        dsimp only [Option.map_some]
        congr 1
        have := ih (pre ++ [(a, v)]) vs (by simpa using hl) (fun x hx => by
          rcases List.mem_append.mp hx with q | q
          · have := hp x q; rw [List.mem_cons, not_or] at this; exact this.2
          · rw [List.mem_singleton.mp q]; exact nd.1) nd.2
        rw [List.append_assoc, List.singleton_append] at this
        exact this
  intro ns vs hl nd
  exact go [] ns vs hl (fun x hx => nomatch hx) nd
theorem bind_plain {fd : FuncData} {names : List Str} (h : plainArgs fd names = true) (nd : names.Nodup) {vals : List Value} (hl : vals.length = names.length) : bindArgs fd ⟨vals, []⟩ = pure (names.zip vals) := by
  unfold plainArgs at h
  simp only [Bool.and_eq_true, List.isEmpty_iff, Option.isNone_iff_eq_none, beq_iff_eq] at h
  obtain ⟨⟨⟨⟨⟨h1, h2⟩, h3⟩, h4⟩, h5⟩, h6⟩ := h
  have miss : (names.take (names.length - 0)).filter (fun n => ((names.zip vals).lookup n).isNone) = [] := by
    rw [List.filter_eq_nil_iff]
    intro n hn
    have := zip_lookup hl n (List.mem_of_mem_take hn)
    cases q : (names.zip vals).lookup n with
    | none => rw [q] at this; cases this
    | some _ => simp
  have sq : seqItems? Value.none = pure none := rfl
  unfold bindArgs
  simp only [h1, h2, h3, h4, h5, h6, sq, List.map_nil, List.nil_append, List.forIn_nil, pure_bind, Option.getD_none, Array.toList_empty, List.length_nil, List.drop_nil, List.append_nil, List.zip_nil_right, Nat.zero_sub, Nat.sub_zero, hl, Nat.lt_irrefl, gt_iff_lt, decide_false, Bool.false_and, Bool.false_eq_true, if_false, List.isEmpty_nil, Bool.not_true]
  have miss' := miss
  rw [Nat.sub_zero] at miss'
  simp only [miss', List.isEmpty_nil, Bool.not_true, Bool.false_eq_true, if_false, zip_filterMap hl nd]
  try rfl
noncomputable def fdB (K : Frag) (c : Cls) (md : MethD) (fd : FuncData) : Bool :=
  (match fd.body with | .stmts b => trSs c md.vars md.body b | _ => false) && fd.scope.kind == .function && !fd.scope.isGenerator && !fd.scope.isCoroutine && fd.scope.names.all (fun y => y.2 != .cell) && md.vars.all (fun v => fd.scope.names.lookup v == some .local) && codeIn K fd.code fd.qualname
noncomputable def isFnO (o : Option Obj) (f : FuncData → Bool) : Bool := match o with
  | some ⟨.type t, none, .func fd, sl⟩ => t == "function" && sl.size == 0 && f fd
  | _ => false
theorem isFnO_of {o : Option Obj} {f : FuncData → Bool} (h : isFnO o f = true) : ∃ fd, o = some ⟨.type "function", none, .func fd, #[]⟩ ∧ f fd = true := by
  unfold isFnO at h
  split at h
  · rename_i t fd sl
    simp only [Bool.and_eq_true, beq_iff_eq] at h
    obtain ⟨⟨rfl, h2⟩, h3⟩ := h
    exact ⟨fd, by rw [Array.eq_empty_of_size_eq_zero h2], h3⟩
  · cases h
noncomputable def nmB (n : Str) : Bool := !copiedNames.contains n && Fld.all.all fun f => n != f.nm
theorem nmB_of {n : Str} (h : nmB n = true) : copiedNames.contains n = false ∧ ∀ f : Fld, n ≠ f.nm := by
  unfold nmB at h
  simp only [Bool.and_eq_true, Bool.not_eq_true', List.all_eq_true, bne_iff_ne] at h
  exact ⟨h.1, fun f => h.2 f (Fld.mem_all f)⟩
noncomputable def varsB (md : MethD) : Bool := decide md.vars.Nodup && md.vars.all (fun v => !(v == ("__debug__" : Str))) && decide (md.np ≤ md.vars.length) && md.vars[0]? == some ("self" : Str)
noncomputable def methB (plain : Bool) (K : Frag) (C : Addr) (c : Cls) (fnA : Nat → Addr) (m : Nat) (md : MethD) : Bool :=
  findIn K (.ref C) md.nm == some (some (.ref (fnA m))) && nmB md.nm && varsB md && isFnO (K.lookup (fnA m)) (fun fd => fdB K c md fd && (!plain || plainArgs fd (md.vars.take md.np)))
theorem methB_of {x : Cx} {m : Nat} {md : MethD} {plain : Bool} (h : methB plain x.K x.C x.c x.fnA m md = true)
    (hb : ∀ fd, x.K.lookup (x.fnA m) = some ⟨.type "function", none, .func fd, #[]⟩ → plain = true ∨ ∀ (s : Shared) (vals : List Value), x.K.In s.heap → vals.length = md.np → BindsTo s fd ⟨vals, []⟩ ((md.vars.take md.np).zip vals)) : MethOk x m md := by
  unfold methB at h
  simp only [Bool.and_eq_true, beq_iff_eq] at h
  obtain ⟨⟨⟨h1, h2⟩, h3⟩, h4⟩ := h
  obtain ⟨n1, n2⟩ := nmB_of h2
  unfold varsB at h3
  simp only [Bool.and_eq_true, decide_eq_true_eq, List.all_eq_true, Bool.not_eq_true', beq_iff_eq] at h3
  obtain ⟨⟨⟨v1, v2⟩, v3⟩, v4⟩ := h3
  obtain ⟨fd, e, hf⟩ := isFnO_of h4
  refine and_el hf fun f1 f2 => ?_
  unfold fdB at f1
  simp only [Bool.and_eq_true, Bool.not_eq_true', beq_iff_eq, List.all_eq_true, bne_iff_ne] at f1
  obtain ⟨⟨⟨⟨⟨⟨g1, g2⟩, g3⟩, g4⟩, g5⟩, g6⟩, g7⟩ := f1
  have body : ∃ b, fd.body = .stmts b ∧ trSs x.c md.vars md.body b = true := by
    split at g1
    · rename_i b hb; exact ⟨b, hb, g1⟩
    · cases g1
  obtain ⟨b, hb1, hb2⟩ := body
  refine ⟨h1, n2, n1, v1, v2, v3, v4, fd, b, e, hb1, hb2, g2, g3, g4, g5, g6, g7, fun s vals K hl => ?_⟩
  rcases hb fd e with q | q
  · subst q
    simp only [Bool.not_true, Bool.false_or] at f2
    exact BindsTo.of_eq (bind_plain f2 ((List.take_sublist _ _).nodup v1) (by rw [hl, List.length_take]; lia))
  · exact q s vals K hl
noncomputable def cstB (K : Frag) (C : Addr) (q : Str × Int) : Bool := (match findIn K (.ref C) q.1 with | some (some (.int i _)) => i == q.2 | _ => false) && nmB q.1
noncomputable def intsB : List Value → List Int → Bool
  | [], [] => true
  | .int i _ :: vs, n :: ns => i == n && intsB vs ns
  | _, _ => false
theorem intsB_of : ∀ {vs : List Value} {ns : List Int}, intsB vs ns = true → IntsAre vs ns
  | [], [], _ => .nil
  | .int i t :: vs, n :: ns, h => by
    unfold intsB at h
    refine and_el h fun h1 h2 => ?_
    obtain rfl := beq_iff_eq.mp h1
    exact .cons _ _ (intsB_of h2)
  | [], _ :: _, h => by unfold intsB at h; cases h
  | .int _ _ :: _, [], h => by unfold intsB at h; cases h
noncomputable def isLstO (o : Option Obj) (f : List Value → Bool) : Bool := match o with
  | some ⟨.type t, none, .seq vs n, sl⟩ => t == "list" && n == 0 && sl.size == 0 && f vs.toList
  | _ => false
theorem isLstO_of {o : Option Obj} {f : List Value → Bool} (h : isLstO o f = true) : ∃ vs : List Value, o = some { cls := .type "list", data := .seq vs.toArray } ∧ f vs = true := by
  unfold isLstO at h
  split at h
  · rename_i t vs n sl
    simp only [Bool.and_eq_true, beq_iff_eq] at h
    obtain ⟨⟨⟨rfl, rfl⟩, h2⟩, h3⟩ := h
    exact ⟨vs.toList, by rw [Array.eq_empty_of_size_eq_zero h2, Array.toArray_toList], h3⟩
  · cases h
noncomputable def tabB (K : Frag) (C : Addr) (a : Addr) (q : Str × List Int) : Bool := findIn K (.ref C) q.1 == some (some (.ref a)) && nmB q.1 && isLstO (K.lookup a) (fun vs => intsB vs q.2) && decide (q.2.length < 2 ^ 62)
noncomputable def insB (K : Frag) (C : Addr) (c : Cls) (fnA : Nat → Addr) (a : Addr) : Bool := findIn K (.ref C) c.instrN == some (some (.ref a)) && nmB c.instrN && isLstO (K.lookup a) (fun vs => vs == c.instr.map fun m => Value.ref (fnA m)) && decide (c.instr.length < 2 ^ 62)
noncomputable def baseB (K : Frag) (C : Addr) : Bool := findIn K (.ref C) "__getattribute__" == some (some (.builtin "object.__getattribute__")) && findIn K (.ref C) "__getattr__" == some none && findIn K (.ref C) "__setattr__" == some (some (.builtin "object.__setattr__")) && hasDictIn K C && plainOver K C && Fld.all.all fun f => findIn K (.ref C) f.nm == some none
structure KLooks (K : Frag) (C : Addr) (c : Cls) (fnA tabA : Nat → Addr) (insA : Addr) : Prop where
  base : baseB K C = true
  cst : c.csts.all (cstB K C) = true
  tab : ∀ k q, c.tabs[k]? = some q → tabB K C (tabA k) q = true
  ins : insB K C c fnA insA = true
theorem ok_of {x : Cx} (h : KLooks x.K x.C x.c x.fnA x.tabA x.insA) (hm : ∀ m md, x.c.P[m]? = some md → MethOk x m md) (X : x.K.In x.h₀) (lim : x.h₀.NoLimit) (nD : x.h₀.get? x.D = none) (nL : x.h₀.get? x.L = none) (DL : x.D ≠ x.L) : Ok x := by
  have hb := h.base
  unfold baseB at hb
  simp only [Bool.and_eq_true, beq_iff_eq, List.all_eq_true] at hb
  obtain ⟨⟨⟨⟨⟨b1, b2⟩, b3⟩, b4⟩, b5⟩, b6⟩ := hb
  refine ⟨X, lim, nD, nL, DL, b1, b2, b3, b4, b5, fun f => b6 f (Fld.mem_all f), fun k n v e => ?_, fun k n l e => ?_, ?_, hm⟩
  · have := List.all_eq_true.mp h.cst (n, v) (List.mem_of_getElem? e)
    unfold cstB at this
    refine and_el this fun q1 q2 => ?_
    obtain ⟨n1, n2⟩ := nmB_of q2
    split at q1
    · rename_i i t hf
      obtain rfl := beq_iff_eq.mp q1
      exact ⟨⟨t, hf⟩, n1, n2⟩
    · cases q1
  · have := h.tab k (n, l) e
    unfold tabB at this
    simp only [Bool.and_eq_true, beq_iff_eq] at this
    obtain ⟨⟨⟨q1, q2⟩, q3⟩, _⟩ := this
    obtain ⟨n1, n2⟩ := nmB_of q2
    obtain ⟨vs, e1, e2⟩ := isLstO_of q3
    exact ⟨q1, n1, n2, vs, e1, intsB_of e2⟩
  · have := h.ins
    unfold insB at this
    simp only [Bool.and_eq_true, beq_iff_eq] at this
    obtain ⟨⟨⟨q1, q2⟩, q3⟩, _⟩ := this
    obtain ⟨n1, n2⟩ := nmB_of q2
    obtain ⟨vs, e1, e2⟩ := isLstO_of q3
    refine ⟨q1, n1, n2, ?_⟩
    rw [e1, beq_iff_eq.mp e2]
theorem small_of {x : Cx} (h : KLooks x.K x.C x.c x.fnA x.tabA x.insA) : Small x := by
  refine ⟨fun k n l e => ?_, ?_⟩
  · have := h.tab k (n, l) e
    unfold tabB at this
    simp only [Bool.and_eq_true, decide_eq_true_eq] at this
    exact this.2
  · have := h.ins
    unfold insB at this
    simp only [Bool.and_eq_true, decide_eq_true_eq] at this
    exact this.2
noncomputable def strKeysB (es : List DictEntry) : Bool := es.all fun e => match e.key with | .str _ _ => true | _ => false
theorem ns_of_obj {h : Heap} {a : Addr} {c : Value} {d : Option Addr} {es : List DictEntry} {n : Nat} {sl : Array (Option Value)} (e : h.get? a = some ⟨c, d, .dict es.toArray n, sl⟩) (hk : strKeysB es = true) : h.Ns a (fun x => nsFind es.toArray x) := by
  refine ⟨_, es.toArray, n, e, rfl, fun en hen => ?_, fun _ => rfl⟩
  have := List.all_eq_true.mp hk en (by simpa using hen)
  split at this
  · rename_i s t hs; exact ⟨s, t, hs⟩
  · cases this
noncomputable def fnVarsB (fd : FnD) (fdt : FuncData) : Bool := decide fd.vars.Nodup && fd.vars.all (fun v => !(v == ("__debug__" : Str))) && decide (fd.np ≤ fd.vars.length) && fd.vars.all (fun v => fdt.scope.names.lookup v == some .local || fdt.scope.names.lookup v == some .cell) && plainArgs fdt (fd.vars.take fd.np)
noncomputable def fnB (c : Cls) (F : List FnD) (fd : FnD) (fdt : FuncData) : Bool :=
  (match fdt.body with | .stmts b => trLSs c F ⟨fdt.scope.names, fd.vars⟩ fd.body b | _ => false) && fdt.scope.kind == .function && !fdt.scope.isGenerator && !fdt.scope.isCoroutine && fdt.closure.isEmpty && fdt.globals == mainGlobals && fdt.builtins == builtinsNs && fnVarsB fd fdt
theorem fnB_of {X : LX} {fd : FnD} {fdt : FuncData} (h : fnB X.x.c X.F fd fdt = true) : FDok X fdt fd := by
  unfold fnB fnVarsB at h
  simp only [Bool.and_eq_true, Bool.not_eq_true', beq_iff_eq, List.isEmpty_iff, List.all_eq_true, decide_eq_true_eq, Bool.or_eq_true] at h
  obtain ⟨⟨⟨⟨⟨⟨⟨h1, h2⟩, h3⟩, h4⟩, h5⟩, h6⟩, h7⟩, ⟨⟨⟨⟨v1, v2⟩, v3⟩, v4⟩, v5⟩⟩ := h
  refine ⟨?_, h2, h3, h4, h5, h6, h7, fun vals hl => bind_plain v5 ((List.take_sublist _ _).nodup v1) (by rw [hl, List.length_take]; lia), v1, v2, v3, v4⟩
  split at h1
  · rename_i b hb; exact ⟨b, hb, h1⟩
  · cases h1
theorem walk_of_law {l : OpenLaw} (hm : l.most = some 63) (hbn : l.bound = none) {q : Program} {loose : List Str} {XP : (Str → Option Value) → Heap → Prop} {YP : World → Heap → Prop} {d : DefRec} {kwd : List (Str × PySem.Expr)}
    (core : ∀ (w : World) (s₀ s₁ : Shared) (mg mb : Str → Option Value), Ground q loose [] XP w s₀ mg mb s₁.heap → YP w s₁.heap → ∀ (a : Addr) (o : Obj) (pm cd doc dV kV : Value), s₁.heap.get? a = some o → o.data = .func { PySem.Calls.docDef d.name d.params d.body d.scope pm cd doc with defaults := dV, kwdefaults := kV } →
      s₁.heap.CodeRec cd d.name → Dflts mg s₁.heap d.params kwd dV kV → ∀ (ns : List Int) (b : Addr) (its : Array Value), ns.length ≤ 63 → s₁.heap.IsList b its → IntsAre its.toList ns →
      ∀ R : Result → Shared → Prop, (∀ s', Kg s₁ s' → R (.ok (.ret (.bool true))) s') → codeAny (model l.prog w) callerA (.call (.ref a) ⟨[.ref b], []⟩) R s₁) :
    WalkO q loose XP YP l.row.toRowW d kwd (fun f vs => PySem.call f vs) := by
  intro w s₀ s₁ mg mb G Y a o pm cd doc dV kV ho hd hcd hD hmg hg args vals as hpre hlay hrd hwl hlo
  obtain ⟨h1, h2⟩ := pre_splitW hpre
  obtain ⟨d0, r0, rfl, h3, h4⟩ := hasAllW_cons h1
  cases r0 with
  | cons _ _ => simp [WShape.hasAll] at h4
  | nil =>
    obtain ⟨xs, rfl, h5⟩ := hasW_list h3
    obtain ⟨ns, rfl⟩ := items_int h5
    have hlen : ns.length ≤ 63 := by
      have hp : l.row.toRowW.pre = .and (.not (.lt (.lit (.int 63)) (.len (.arg 0)))) (.lit (.bool true)) := by
        show l.pre = _
        unfold OpenLaw.pre
        rw [hm, hbn]
        rfl
      rw [hp] at h2
      obtain ⟨h6, _⟩ := holds_andW h2
      have hv := w_not (R := l.row.toRowW.records) (e := { args := [.list (ns.map .int)] }) (w_lt (a := .lit (.int 63)) (b := .len (.arg 0)) w_lit (w_len_list (w_arg rfl)))
      unfold WTm.holds at h6
      rw [hv] at h6
      split at h6
      · rename_i q
        have q1 := WData.bool.inj (Option.some.inj q)
        simp only [Bool.not_eq_true', decide_eq_false_iff_not, List.length_map] at q1
        lia
      · cases h6
    cases hrd with
    | cons r1 rr =>
      cases rr
      cases r1 with
      | list ho' hc' hd' ra =>
        rename_i b ob vs n' as'
        have hints : ∀ (vs : List Value) (ns : List Int) (as : List Addr), ReadsAllW l.row.toRowW.records (classAt s₀.heap) s₁.heap vs (ns.map .int) as → IntsAre vs ns := by
          intro vs ns
          induction ns generalizing vs with
          | nil => intro as h; cases h; exact .nil
          | cons n ns ih =>
            intro as h
            cases h with
            | cons r h => cases r; exact .cons _ _ (ih _ _ h)
        refine wpAny_call (core w s₀ s₁ mg mb G Y a o pm cd doc dV kV ho hd hcd hD ns b vs hlen ⟨ob, ho', hc', n', hd'⟩ (hints _ _ _ ra) _ fun s' k => ?_)
        refine GoodW.toG ⟨.inl ⟨.bool true, .bool true, [], rfl, fun cls => rfl, .bool true, ?_, fun _ => ⟨List.nodup_nil, fun a ha => nomatch ha⟩⟩, k.grow, ?_, ?_⟩
        · exact postW_of (by rfl) (w_eq_bool (w_res rfl) w_lit) (by rfl)
        · obtain ⟨h', t', rfl, _⟩ := k; rfl
        · obtain ⟨h', t', rfl, _⟩ := k; exact hg
end Mine

end
section
open PySem PySem.W PyProof.Rows
set_option maxRecDepth 100000
set_option maxHeartbeats 1000000
set_option linter.unusedSimpArgs false
set_option linter.unusedVariables false
namespace Mine
noncomputable def initArgs (fd : FuncData) (T : Addr) : Bool :=
  fd.params.posonlyargs.isEmpty && fd.params.vararg.isNone && fd.params.kwonlyargs.isEmpty && fd.params.kwarg.isNone && fd.defaults == .ref T && fd.params.args.map (·.arg) == [("self" : Str), ("memory" : Str), ("pc" : Str)]
theorem three_args {l : List Arg} (h : l.map (·.arg) = [("self" : Str), ("memory" : Str), ("pc" : Str)]) : ∃ t1 p1 t2 p2 t3 p3, l = [⟨"self", t1, p1⟩, ⟨"memory", t2, p2⟩, ⟨"pc", t3, p3⟩] := by
  match l, h with
  | [⟨n1, t1, p1⟩, ⟨n2, t2, p2⟩, ⟨n3, t3, p3⟩], h =>
    simp only [List.map_cons, List.map_nil, List.cons.injEq, and_true] at h
    obtain ⟨rfl, rfl, rfl⟩ := h
    exact ⟨_, _, _, _, _, _, rfl⟩
theorem bind_init {K : Frag} {s : Shared} {fd : FuncData} {T : Addr} {d1 d2 : Value} (h : initArgs fd T = true) (hT : K.lookup T = some (tupO [d1, d2])) (X : K.In s.heap) (a b c : Value) :
    BindsTo s fd ⟨[a, b, c], []⟩ [("self", a), ("memory", b), ("pc", c)] ∧ BindsTo s fd ⟨[a], [("memory", b), ("pc", c)]⟩ [("self", a), ("memory", b), ("pc", c)] := by
  unfold initArgs at h
  simp only [Bool.and_eq_true, List.isEmpty_iff, Option.isNone_iff_eq_none, beq_iff_eq] at h
  obtain ⟨⟨⟨⟨⟨h1, h2⟩, h3⟩, h4⟩, h5⟩, h6⟩ := h
  obtain ⟨t1, p1, t2, p2, t3, p3, h7⟩ := three_args h6
  obtain ⟨name, qualname, ⟨po, ar, va, ko, kd, kw, df⟩, body, scope, globals, closure, defaults, kwdefaults, doc, pm, ann, code, ct, bl⟩ := fd
  dsimp only at h1 h2 h3 h4 h5 h7
  subst h1 h2 h3 h4 h5 h7
  exact ⟨BindsTo.of_defaults rfl (X _ _ hT) rfl rfl rfl, BindsTo.of_defaults rfl (X _ _ hT) rfl rfl rfl⟩
noncomputable def methsB (K : Frag) (C : Addr) (c : Cls) (fnA : Nat → Addr) (im : Nat) : Nat → List MethD → Bool
  | _, [] => true
  | m, md :: r => methB (m != im) K C c fnA m md && methsB K C c fnA im (m + 1) r
theorem methsB_of {K : Frag} {C : Addr} {c : Cls} {fnA : Nat → Addr} {im : Nat} : ∀ {l : List MethD} {k : Nat}, methsB K C c fnA im k l = true → ∀ m md, l[m]? = some md → methB (k + m != im) K C c fnA (k + m) md = true
  | [], k, _, m, md, e => by simp at e
  | a :: l, k, h, 0, md, e => by
    unfold methsB at h
    simp at e; subst e
    exact (Bool.and_eq_true_iff.mp h).1
  | a :: l, k, h, m + 1, md, e => by
    unfold methsB at h
    have := methsB_of (Bool.and_eq_true_iff.mp h).2 m md (by simpa using e)
    rwa [show k + 1 + m = k + (m + 1) by lia] at this
theorem in_of_tree {s : SharedT} {K : Frag} (h : K.map (fun p => (Nat.blt p.1 s.n, (s.tree.get p.1).map alive)) = K.map (fun p => (true, some (some p.2)))) : (K.map (·.1)).map s.abs.heap.get? = K.map fun p => some p.2 := by
  rw [List.map_map]
  rw [List.map_inj_left] at h ⊢
  intro p hp
  have := h p hp
  rw [Prod.mk.injEq] at this
  obtain ⟨h1, h2⟩ := this
  obtain ⟨o, g, e⟩ := Option.map_eq_some_iff.mp h2
  show (absHeap s.tree s.n s.life).get? p.1 = some p.2
  rw [abs_get (Nat.blt_eq.mp h1) g, e]
theorem seen_of {KK : Params → Frag} {as : List Addr} (e : ∀ P, as = (KK P).map (·.1)) {s : SharedT} {w : World} (h : (KK w.params).map (fun p => (Nat.blt p.1 s.n, (s.tree.get p.1).map alive)) = (KK w.params).map (fun p => (true, some (some p.2)))) : (kHook KK as e).obs s.abs = (kHook KK as e).val w := by
  show as.map s.abs.heap.get? = (KK w.params).map fun p => some p.2
  rw [e w.params]
  exact in_of_tree h
theorem left_of {p q : Program} {loose : List Str} {Xt : Shared → Bool} {H : Hook} {N : Nat} {g0 : Bool} {H₀ : Params → Heap} {gs₀ : Array GenState} {d₀ : Drawn} {k₀ : Nat} {m₀ : Nat} {ann : Option Value} {F : World → OsState → SharedT}
    (open_ : ∀ w : World, (fencedOpening treeTable p w N).map (fun s => (s.heap, s.gens, s.drawn, s.toks)) = some (H₀ w.params, gs₀, d₀, k₀))
    (size : ∀ w : World, ((H₀ w.params).isNs mainGlobals && gs₀.size == 0, (H₀ w.params).objs.size, (H₀ w.params).nsMap mainGlobals "__annotations__") = (true, m₀, ann))
    (run : ∀ (w : World) (os : OsState), ∃ M, M ≤ N ∧ topRun treeTable p w m₀ ann M ⟨H₀ w.params, gs₀, d₀, k₀, os⟩ (topStub p) = some (F w os).abs)
    (looks : ∀ (w : World) (os : OsState), ((staticsOk (importedModules p.main.body) (H₀ w.params) (F w os).abs.heap && namesBound p (F w os).abs.heap && gensDone (F w os).abs && laidKept (H₀ w.params) (F w os).abs.heap),
        openSeen q loose (importedModules p.main.body) Xt g0 (F w os).abs) = (true, openGood q loose))
    (seen : ∀ (w : World) (os : OsState), H.obs (F w os).abs = H.val w) : LeftO p q loose Xt H.obs H.val N g0 :=
  LeftO.of_run (F := fun w os => (F w os).abs) open_ size run fun w os => by
    have h := looks w os
    rw [Prod.mk.injEq] at h
    rw [h.1, h.2, seen w os]
theorem caller_ok {j : Nat} (hj : j ≤ 8) : AOk callerA (j + deep + 3) := by
  refine ⟨rfl, ?_, ?_⟩
  · have : callerA.depth + (8 + deep + 3) ≤ recursionLimit := by decide +kernel
    lia
  · have : callerA.units + 4 * (8 + deep + 3) + 80 < cLine := by decide +kernel
    lia
theorem law_core {X : LX} (OK : LOk X) (FO : FnsOk X) {fdt : FuncData} {fd : FnD} (S : FDok X fdt fd) {s : Shared} (hs : X.x.h₀ = s.heap) (np : fd.np = 1) {a : Addr} {o : Obj} (ho : s.heap.get? a = some o) (hd : o.data = .func fdt) (hcd : s.heap.CodeRec fdt.code fdt.qualname)
    {ns : List Int} {b : Addr} {its : Array Value} (hl : ns.length ≤ 63) (li : s.heap.IsList b its) (ia : IntsAre its.toList ns) {j : Nat} (hj : j ≤ 8)
    (D : ∃ ρ', exLs X.x.c X.im X.fuel (callL X.x.c X.im X.fuel X.F j) fd.body (some (.ints ns) :: List.replicate (fd.vars.length - 1) none) = some (.ret (.bool true), ρ')) {R : Result → Shared → Prop}
    (post : ∀ s', Kg s s' → R (.ok (.ret (.bool true))) s') : codeAny (model X.x.prog X.x.w) callerA (.call (.ref a) ⟨[.ref b], []⟩) R s := by
  obtain ⟨ρ', D⟩ := D
  refine run_fn OK (caller_ok hj) (fun A' a' => sound_callL OK FO j A' a') S ho hd (hs ▸ FO.lim) hcd (args := [.ints ns]) (vals := [.ref b]) (N := fun _ => False) (by rw [np]; rfl) rfl (by rw [np]; exact D) (fun q => by cases q) (fun _ _ e => hs ▸ e) (fun _ q => q.elim) (.cons ⟨b, its, rfl, fun q => q, li, ia, Nat.le_trans hl (by decide)⟩ .nil) fun y s' r k => ?_
  have : y = .bool true := r
  subst this
  exact post s' k
theorem row_holds {l : OpenLaw} {p q : Program} {loose : List Str} {Xt : Shared → Bool} {H : Hook} {N : Nat} {d : DefRec} (hp : l.prog = p) (hm : l.most = some 63) (hbn : l.bound = none) (hwr : l.writes = false)
    (left : LeftO p q loose Xt H.obs H.val N true) (hXt : ∀ s, Xt s = (xlAt q [] s && recOk (RowW.records l.row.toRowW) s))
    (hdef : defOf q l.name = some (d, [])) (hthe : p.theDef l.name = some (d.params, d.body, d.scope)) (hkw : kwWritten? d.params.kwonlyargs d.params.kw_defaults = some []) (hdfl : d.params.defaults = [])
    (said : l.row.wellSaid = true) (ok : (chainsOk q && opensWell p && (frees l.row.toRowW && l.row.within.isEmpty)) = true) (hb : p.bare) (hw : l.row.toRowW.promised)
    (core : ∀ (w : World) (s : Shared) (mb : Str → Option Value), H.says w s.heap → s.heap.NoLimit → s.heap.Ns builtinsNs mb → (∀ x : Str, x ≠ "__name__" → mb x = bootBuiltins x) → ∀ (a : Addr) (o : Obj) (pm cd doc kV : Value), s.heap.get? a = some o →
      o.data = .func { PySem.Calls.docDef d.name d.params d.body d.scope pm cd doc with defaults := .none, kwdefaults := kV } → s.heap.CodeRec cd d.name → ∀ (ns : List Int) (b : Addr) (its : Array Value), ns.length ≤ 63 → s.heap.IsList b its → IntsAre its.toList ns →
      ∀ R : Result → Shared → Prop, (∀ s', Kg s s' → R (.ok (.ret (.bool true))) s') → codeAny (model p w) callerA (.call (.ref a) ⟨[.ref b], []⟩) R s) : l.row.Holds := by
  subst hp
  refine PySem.W.holds_open (r := l.row) (q := q) (loose := loose) (Xt := Xt) (XP := XL q []) (Yf := H.obs) (Ya := H.val) (YP := H.says) (d := d) (kwd := []) (N := N) left H.of H.keeps (fun s e => xl_of s ?_) XL.keeps
    hdef hthe hkw (fun s e => recFacts_of ?_) ?_ said ok hb hw (walk_of_law hm hbn ?_)
  · rw [hXt] at e; exact (Bool.and_eq_true_iff.mp e).1
  · rw [hXt] at e; exact (Bool.and_eq_true_iff.mp e).2
  · show (!l.writes || _) = true
    rw [hwr]; rfl
  · intro w s₀ s₁ mg mb G Y a o pm cd doc dV kV ho hd hcd hD ns b its hl li ia R post
    obtain rfl := Dflts.none hD hdfl
    exact core w s₁ mb Y G.T.nolimit G.T.b G.T.builtins a o pm cd doc kV ho hd hcd ns b its hl li ia R post
end Mine

end
section
open PySem PySem.W PyProof.Rows
set_option maxRecDepth 100000
set_option maxHeartbeats 0
namespace Mine
noncomputable def pk (n v bb d i z c : Bool) : Int := cond n 128 0 + cond v 64 0 + 32 + cond bb 16 0 + cond d 8 0 + cond i 4 0 + cond z 2 0 + cond c 1 0
noncomputable abbrev bAnd := Builtin.bitAnd
noncomputable abbrev bOr := Builtin.bitOr
noncomputable abbrev bXor := Builtin.bitXor
noncomputable abbrev bNot := Builtin.bitNot
theorem pk_nz : ∀ n v bb d i z c, bAnd (pk n v bb d i z c) (bNot (bOr 2 128)) = pk false v bb d i false c := by decide +kernel
theorem pk_czn : ∀ n v bb d i z c, bAnd (pk n v bb d i z c) (bNot (bOr (bOr 1 2) 128)) = pk false v bb d i false false := by decide +kernel
theorem pk_orZ : ∀ n v bb d i z c, bOr (pk n v bb d i z c) 2 = pk n v bb d i true c := by decide +kernel
theorem pk_orC : ∀ n v bb d i z c, bOr (pk n v bb d i z c) 1 = pk n v bb d i z true := by decide +kernel
theorem pk_orCZ : ∀ n v bb d i z c, bOr (pk n v bb d i z c) (bOr 1 2) = pk n v bb d i true true := by decide +kernel
theorem pk_or0 : ∀ n v bb d i z c, bOr (pk n v bb d i z c) 0 = pk n v bb d i z c := by decide +kernel
theorem pk_orN : ∀ n v bb d i z c, bOr (pk n v bb d i z c) 128 = pk true v bb d i z c := by decide +kernel
theorem pk_C : ∀ n v bb d i z c, bAnd (pk n v bb d i z c) 1 = cond c 1 0 := by decide +kernel
theorem pk_Z : ∀ n v bb d i z c, bAnd (pk n v bb d i z c) 2 = cond z 2 0 := by decide +kernel
theorem pk_I : ∀ n v bb d i z c, bAnd (pk n v bb d i z c) 4 = cond i 4 0 := by decide +kernel
noncomputable def Oct (v : Int) : Prop := 0 ≤ v ∧ v < 256
theorem oct_ind {P : Int → Prop} (h : ∀ n : Nat, n < 256 → P n) {v : Int} (o : Oct v) : P v := by
  obtain ⟨h0, h1⟩ := o
  have := h v.toNat (by lia)
  rwa [Int.toNat_of_nonneg h0] at this
theorem oct_128 {v : Int} (o : Oct v) : bAnd v 128 = cond (decide (128 ≤ v)) 128 0 := oct_ind (P := fun v => bAnd v 128 = cond (decide (128 ≤ v)) 128 0) (by decide +kernel) o
theorem oct_self {v : Int} (o : Oct v) : bAnd v 255 = v := oct_ind (P := fun v => bAnd v 255 = v) (by decide +kernel) o
theorem oct_inc {v : Int} (o : Oct v) : bAnd (v + 1) 255 = (v + 1) % 256 := oct_ind (P := fun v => bAnd (v + 1) 255 = (v + 1) % 256) (by decide +kernel) o
theorem oct_dec {v : Int} (o : Oct v) : bAnd (v - 1) 255 = (v - 1) % 256 := oct_ind (P := fun v => bAnd (v - 1) 255 = (v - 1) % 256) (by decide +kernel) o
theorem and_mask {v : Int} (k : Nat) (h : 0 ≤ v) : bAnd v ((2 ^ k - 1 : Nat) : Int) = v % 2 ^ k := by
  obtain ⟨n, rfl⟩ := Int.eq_ofNat_of_zero_le h
  have e1 : decide ((0 : Int) ≤ (n : Int)) = true := decide_eq_true (by lia)
  have e2 : decide ((0 : Int) ≤ ((2 ^ k - 1 : Nat) : Int)) = true := decide_eq_true (by lia)
  show Builtin.bitAnd _ _ = _
  unfold Builtin.bitAnd
  rw [e1, e2]
  show ((n &&& (2 ^ k - 1) : Nat) : Int) = _
  rw [Nat.and_two_pow_sub_one_eq_mod]
  exact Int.natCast_emod n (2 ^ k) |>.trans (by rw [Int.natCast_pow]; rfl)
theorem and_255 {v : Int} (h : 0 ≤ v) : bAnd v 255 = v % 256 := and_mask 8 h
theorem and_65535 {v : Int} (h : 0 ≤ v) (h1 : v < 65536) : bAnd v 65535 = v := (and_mask 16 h).trans (Int.emod_eq_of_lt h h1)
end Mine

end
section
open PySem PySem.W PyProof.Rows
set_option maxRecDepth 100000
set_option maxHeartbeats 0
set_option linter.unusedSimpArgs false
set_option linter.unusedVariables false
namespace Mine
noncomputable abbrev KM := V → M → Option (V × M)
section
variable (c : Cls) (ck : Nat → List V → M → KM → Option (V × M)) (ρ : Loc)
noncomputable def kE : E → M → KM → Option (V × M)
  | .int i, σ, k => k (.int i) σ
  | .none, σ, k => k .none σ
  | .var v, σ, k => (ρ.at v).bind fun x => k x σ
  | .fld f, σ, k => (σ.get f).got?.bind fun v => k v σ
  | .cst j, σ, k => (c.csts[j]?).bind fun x => k (.int x.2) σ
  | .mref m, σ, k => k (.meth m) σ
  | .mem i, σ, k => cond σ.hm (kE i σ fun v σ' => v.int?.bind fun j => (at? σ'.mem j).bind fun x => k (.int x) σ') Option.none
  | .tab t i, σ, k => kE i σ fun v σ' => v.int?.bind fun j => (c.tabs[t]?).bind fun l => (at? l.2 j).bind fun x => k (.int x) σ'
  | .bin op a b, σ, k => kE a σ fun u σ₁ => u.int?.bind fun i => kE b σ₁ fun w σ₂ => w.int?.bind fun j => (op.ev i j).bind fun r => k (.int r) σ₂
  | .inv a, σ, k => kE a σ fun u σ₁ => u.int?.bind fun i => k (.int (Builtin.bitNot i)) σ₁
  | .cmp op a b, σ, k => kE a σ fun u σ₁ => u.int?.bind fun i => kE b σ₁ fun w σ₂ => w.int?.bind fun j => k (.bool (op.ev i j)) σ₂
  | .isNone v, σ, k => (ρ.at v).bind fun u => u.isN?.bind fun b => k (.bool b) σ
  | .isNoneF f, σ, k => (σ.get f).isNF?.bind fun b => k (.bool b) σ
  | .txt, σ, k => k .txt σ
  | .bool b, σ, k => k (.bool b) σ
  | .stuck, _, _ => Option.none
  | .call0 m, σ, k => ck m [] σ k
  | .call1 m a, σ, k => kE a σ fun u σ₁ => ck m [u] σ₁ k
  | .call2 m a b, σ, k => kE a σ fun u σ₁ => kE b σ₁ fun w σ₂ => ck m [u, w] σ₂ k
  | .callV v, σ, k => (ρ.at v).bind fun u => u.meth?.bind fun m => ck m [] σ k
  | .callT i, σ, k => kE i σ fun u σ₁ => u.int?.bind fun j => if 0 ≤ j then (c.instr[j.toNat]?).bind fun m => ck m [] σ₁ k else Option.none
end
noncomputable abbrev KS := Fl → Loc → M → Option (V × M)
section
variable (c : Cls) (ck : Nat → List V → M → KM → Option (V × M))
mutual
noncomputable def kS : S → Loc → M → KS → Option (V × M)
  | .expr e, ρ, σ, k => kE c ck ρ e σ fun _ σ₁ => k .next ρ σ₁
  | .asgV v e, ρ, σ, k => kE c ck ρ e σ fun x σ₁ => if v < ρ.length then k .next (ρ.set v (some x)) σ₁ else Option.none
  | .asgF f e, ρ, σ, k => kE c ck ρ e σ fun u σ₁ => u.flat?.bind fun x => (σ₁.set f x).bind fun σ₂ => k .next ρ σ₂
  | .asgM i e, ρ, σ, k => kE c ck ρ e σ fun u σ₁ => u.int?.bind fun x => cond σ₁.hm (kE c ck ρ i σ₁ fun w σ₂ => w.int?.bind fun j => (putAt σ₂.mem j x).bind fun l => k .next ρ { σ₂ with mem := l }) Option.none
  | .augV v op e, ρ, σ, k => (ρ.at v).bind fun u => u.int?.bind fun a => kE c ck ρ e σ fun w σ₁ => w.int?.bind fun b => (op.ev a b).bind fun r => if v < ρ.length then k .next (ρ.set v (some (.int r))) σ₁ else Option.none
  | .augF f op e, ρ, σ, k => (σ.get f).int?.bind fun a => kE c ck ρ e σ fun w σ₁ => w.int?.bind fun b => (op.ev a b).bind fun r => (σ₁.set f (.int r)).bind fun σ₂ => k .next ρ σ₂
  | .ite t a b, ρ, σ, k => kE c ck ρ t σ fun v σ₁ => (truth v).bind fun q => cond q (kSs a ρ σ₁ k) (kSs b ρ σ₁ k)
  | .ret e, ρ, σ, k => kE c ck ρ e σ fun v σ₁ => k (.ret v) ρ σ₁
  | .ret0, ρ, σ, k => k (.ret .none) ρ σ
  | .pass, ρ, σ, k => k .next ρ σ
noncomputable def kSs : Ss → Loc → M → KS → Option (V × M)
  | .nil, ρ, σ, k => k .next ρ σ
  | .cons s r, ρ, σ, k => kS s ρ σ fun fl ρ₁ σ₁ => match fl with
    | .next => kSs r ρ₁ σ₁ k
    | .ret v => k (.ret v) ρ₁ σ₁
end
end
noncomputable def callK (c : Cls) : Nat → Nat → List V → M → KM → Option (V × M)
  | 0, _, _, _, _ => Option.none
  | d + 1, m, args, σ, k => (c.P[m]?).bind fun md => if args.length + 1 = md.np then kSs c (callK c d) md.body ((some V.self :: args.map some) ++ List.replicate (md.vars.length - md.np) Option.none) σ fun fl _ σ' => k fl.out σ' else Option.none
section
variable {α β γ : Type}
theorem ob_assoc {o : Option α} {f : α → Option β} {g : β → Option γ} : (o.bind f).bind g = o.bind fun a => (f a).bind g := Option.bind_assoc _ _ _
theorem ob_map {o : Option α} {f : α → β} {g : β → Option γ} : (o.map f).bind g = o.bind fun a => g (f a) := by cases o <;> rfl
theorem ob_cond {b : Bool} {x y : Option α} {f : α → Option β} : (cond b x y).bind f = cond b (x.bind f) (y.bind f) := by cases b <;> rfl
theorem ob_ite {p : Prop} [Decidable p] {x : Option α} {f : α → Option β} : (if p then x else none).bind f = if p then x.bind f else none := by by_cases h : p <;> simp [h]
end
section
variable {c : Cls} {cf : Nat → List V → M → Option (V × M)} {ck : Nat → List V → M → KM → Option (V × M)} {ρ : Loc} {σ : M}
theorem kE_int : kE c ck ρ (.int i) σ k = k (.int i) σ := rfl
theorem kE_none : kE c ck ρ (.none) σ k = k .none σ := rfl
theorem kE_var : kE c ck ρ (.var v) σ k = (ρ.at v).bind fun x => k x σ := rfl
theorem kE_fld : kE c ck ρ (.fld f) σ k = (σ.get f).got?.bind fun v => k v σ := rfl
theorem kE_cst : kE c ck ρ (.cst j) σ k = (c.csts[j]?).bind fun x => k (.int x.2) σ := rfl
theorem kE_mref : kE c ck ρ (.mref m) σ k = k (.meth m) σ := rfl
theorem kE_mem : kE c ck ρ (.mem i) σ k = cond σ.hm (kE c ck ρ i σ fun v σ' => v.int?.bind fun j => (at? σ'.mem j).bind fun x => k (.int x) σ') Option.none := rfl
theorem kE_tab : kE c ck ρ (.tab t i) σ k = kE c ck ρ i σ fun v σ' => v.int?.bind fun j => (c.tabs[t]?).bind fun l => (at? l.2 j).bind fun x => k (.int x) σ' := rfl
theorem kE_bin : kE c ck ρ (.bin op a b) σ k = kE c ck ρ a σ fun u σ₁ => u.int?.bind fun i => kE c ck ρ b σ₁ fun w σ₂ => w.int?.bind fun j => (op.ev i j).bind fun r => k (.int r) σ₂ := rfl
theorem kE_inv : kE c ck ρ (.inv a) σ k = kE c ck ρ a σ fun u σ₁ => u.int?.bind fun i => k (.int (Builtin.bitNot i)) σ₁ := rfl
theorem kE_cmp : kE c ck ρ (.cmp op a b) σ k = kE c ck ρ a σ fun u σ₁ => u.int?.bind fun i => kE c ck ρ b σ₁ fun w σ₂ => w.int?.bind fun j => k (.bool (op.ev i j)) σ₂ := rfl
theorem kE_isNone : kE c ck ρ (.isNone v) σ k = (ρ.at v).bind fun u => u.isN?.bind fun b => k (.bool b) σ := rfl
theorem kE_isNoneF : kE c ck ρ (.isNoneF f) σ k = (σ.get f).isNF?.bind fun b => k (.bool b) σ := rfl
theorem kE_txt : kE c ck ρ (.txt) σ k = k .txt σ := rfl
theorem kE_bool : kE c ck ρ (.bool b) σ k = k (.bool b) σ := rfl
theorem kE_stuck : kE c ck ρ (.stuck) u0 u1 = Option.none := rfl
theorem kE_call0 : kE c ck ρ (.call0 m) σ k = ck m [] σ k := rfl
theorem kE_call1 : kE c ck ρ (.call1 m a) σ k = kE c ck ρ a σ fun u σ₁ => ck m [u] σ₁ k := rfl
theorem kE_call2 : kE c ck ρ (.call2 m a b) σ k = kE c ck ρ a σ fun u σ₁ => kE c ck ρ b σ₁ fun w σ₂ => ck m [u, w] σ₂ k := rfl
theorem kE_callV : kE c ck ρ (.callV v) σ k = (ρ.at v).bind fun u => u.meth?.bind fun m => ck m [] σ k := rfl
theorem kE_callT : kE c ck ρ (.callT i) σ k = kE c ck ρ i σ fun u σ₁ => u.int?.bind fun j => if 0 ≤ j then (c.instr[j.toNat]?).bind fun m => ck m [] σ₁ k else Option.none := rfl
theorem evE_int : evE c cf ρ (.int i) σ = some (.int i, σ) := rfl
theorem evE_none : evE c cf ρ (.none) σ = some (.none, σ) := rfl
theorem evE_var : evE c cf ρ (.var v) σ = (ρ.at v).map fun x => (x, σ) := rfl
theorem evE_fld : evE c cf ρ (.fld f) σ = ((σ.get f).got?).map fun v => (v, σ) := rfl
theorem evE_cst : evE c cf ρ (.cst k) σ = (c.csts[k]?).map fun x => (.int x.2, σ) := rfl
theorem evE_mref : evE c cf ρ (.mref m) σ = some (.meth m, σ) := rfl
theorem evE_mem : evE c cf ρ (.mem i) σ = cond σ.hm (onI (evE c cf ρ i σ) fun k σ' => (at? σ'.mem k).map fun x => (.int x, σ')) Option.none := rfl
theorem evE_tab : evE c cf ρ (.tab t i) σ = onI (evE c cf ρ i σ) fun k σ' => (c.tabs[t]?).bind fun l => (at? l.2 k).map fun x => (.int x, σ') := rfl
theorem evE_bin : evE c cf ρ (.bin op a b) σ = onI (evE c cf ρ a σ) fun i σ₁ => onI (evE c cf ρ b σ₁) fun j σ₂ => (op.ev i j).map fun r => (.int r, σ₂) := rfl
theorem evE_inv : evE c cf ρ (.inv a) σ = onI (evE c cf ρ a σ) fun i σ₁ => some (.int (Builtin.bitNot i), σ₁) := rfl
theorem evE_cmp : evE c cf ρ (.cmp op a b) σ = onI (evE c cf ρ a σ) fun i σ₁ => onI (evE c cf ρ b σ₁) fun j σ₂ => some (.bool (op.ev i j), σ₂) := rfl
theorem evE_isNone : evE c cf ρ (.isNone v) σ = (ρ.at v).bind fun u => u.isN?.map fun b => (.bool b, σ) := rfl
theorem evE_isNoneF : evE c cf ρ (.isNoneF f) σ = (σ.get f).isNF?.map fun b => (.bool b, σ) := rfl
theorem evE_txt : evE c cf ρ (.txt) σ = some (.txt, σ) := rfl
theorem evE_bool : evE c cf ρ (.bool b) σ = some (.bool b, σ) := rfl
theorem evE_stuck : evE c cf ρ (.stuck) u0 = Option.none := rfl
theorem evE_call0 : evE c cf ρ (.call0 m) σ = cf m [] σ := rfl
theorem evE_call1 : evE c cf ρ (.call1 m a) σ = (evE c cf ρ a σ).bind fun r => cf m [r.1] r.2 := rfl
theorem evE_call2 : evE c cf ρ (.call2 m a b) σ = (evE c cf ρ a σ).bind fun r => (evE c cf ρ b r.2).bind fun r₂ => cf m [r.1, r₂.1] r₂.2 := rfl
theorem evE_callV : evE c cf ρ (.callV v) σ = (ρ.at v).bind fun u => u.meth?.bind fun m => cf m [] σ := rfl
theorem evE_callT : evE c cf ρ (.callT i) σ = onI (evE c cf ρ i σ) fun k σ₁ => if 0 ≤ k then (c.instr[k.toNat]?).bind fun m => cf m [] σ₁ else Option.none := rfl
end
section
variable {c : Cls} {cf : Nat → List V → M → Option (V × M)} {ck : Nat → List V → M → KM → Option (V × M)} {ρ : Loc} {σ : M}
theorem kS_expr : kS c ck (.expr e) ρ σ k = kE c ck ρ e σ fun _ σ₁ => k .next ρ σ₁ := rfl
theorem kS_asgV : kS c ck (.asgV v e) ρ σ k = kE c ck ρ e σ fun x σ₁ => if v < ρ.length then k .next (ρ.set v (some x)) σ₁ else Option.none := rfl
theorem kS_asgF : kS c ck (.asgF f e) ρ σ k = kE c ck ρ e σ fun u σ₁ => u.flat?.bind fun x => (σ₁.set f x).bind fun σ₂ => k .next ρ σ₂ := rfl
theorem kS_asgM : kS c ck (.asgM i e) ρ σ k = kE c ck ρ e σ fun u σ₁ => u.int?.bind fun x => cond σ₁.hm (kE c ck ρ i σ₁ fun w σ₂ => w.int?.bind fun j => (putAt σ₂.mem j x).bind fun l => k .next ρ { σ₂ with mem := l }) Option.none := rfl
theorem kS_augV : kS c ck (.augV v op e) ρ σ k = (ρ.at v).bind fun u => u.int?.bind fun a => kE c ck ρ e σ fun w σ₁ => w.int?.bind fun b => (op.ev a b).bind fun r => if v < ρ.length then k .next (ρ.set v (some (.int r))) σ₁ else Option.none := rfl
theorem kS_augF : kS c ck (.augF f op e) ρ σ k = (σ.get f).int?.bind fun a => kE c ck ρ e σ fun w σ₁ => w.int?.bind fun b => (op.ev a b).bind fun r => (σ₁.set f (.int r)).bind fun σ₂ => k .next ρ σ₂ := rfl
theorem kS_ite : kS c ck (.ite t a b) ρ σ k = kE c ck ρ t σ fun v σ₁ => (truth v).bind fun q => cond q (kSs c ck a ρ σ₁ k) (kSs c ck b ρ σ₁ k) := rfl
theorem kS_ret : kS c ck (.ret e) ρ σ k = kE c ck ρ e σ fun v σ₁ => k (.ret v) ρ σ₁ := rfl
theorem exS_expr : exS c cf (.expr e) ρ σ = (evE c cf ρ e σ).map fun r => (.next, ρ, r.2) := rfl
theorem exS_asgV : exS c cf (.asgV v e) ρ σ = (evE c cf ρ e σ).bind fun r => if v < ρ.length then some (.next, ρ.set v (some r.1), r.2) else Option.none := rfl
theorem exS_asgF : exS c cf (.asgF f e) ρ σ = (evE c cf ρ e σ).bind fun r => r.1.flat?.bind fun x => (r.2.set f x).map fun σ₂ => (.next, ρ, σ₂) := rfl
theorem exS_augV : exS c cf (.augV v op e) ρ σ = (ρ.at v).bind fun u => u.int?.bind fun a => onI (evE c cf ρ e σ) fun b σ₁ => (op.ev a b).bind fun r => if v < ρ.length then some (.next, ρ.set v (some (.int r)), σ₁) else Option.none := rfl
theorem exS_augF : exS c cf (.augF f op e) ρ σ = (σ.get f).int?.bind fun a => onI (evE c cf ρ e σ) fun b σ₁ => (op.ev a b).bind fun r => (σ₁.set f (.int r)).map fun σ₂ => (.next, ρ, σ₂) := rfl
theorem exS_ite : exS c cf (.ite t a b) ρ σ = (evE c cf ρ t σ).bind fun r => (truth r.1).bind fun q => cond q (exSs c cf a ρ r.2) (exSs c cf b ρ r.2) := rfl
theorem exS_ret : exS c cf (.ret e) ρ σ = (evE c cf ρ e σ).map fun r => (.ret r.1, ρ, r.2) := rfl
end
theorem onI_bind {β γ : Type} {o : Option (V × M)} {f : Int → M → Option β} {g : β → Option γ} : (onI o f).bind g = o.bind fun r => r.1.int?.bind fun i => (f i r.2).bind g := by
  unfold onI
  rw [ob_assoc]
  exact congrArg _ (funext fun r => ob_assoc)
section
variable {c : Cls} {cf : Nat → List V → M → Option (V × M)} {ck : Nat → List V → M → KM → Option (V × M)} (H : ∀ m args σ k, ck m args σ k = (cf m args σ).bind fun r => k r.1 r.2)
include H
theorem kE_eq {ρ : Loc} (e : E) : ∀ (σ : M) (k : KM), kE c ck ρ e σ k = (evE c cf ρ e σ).bind fun r => k r.1 r.2 := by
  induction e <;> intro σ k <;> simp only [kE_int, kE_none, kE_var, kE_fld, kE_cst, kE_mref, kE_mem, kE_tab, kE_bin, kE_inv, kE_cmp, kE_isNone, kE_isNoneF, kE_txt, kE_bool, kE_stuck, kE_call0, kE_call1, kE_call2, kE_callV, kE_callT, evE_int, evE_none, evE_var, evE_fld, evE_cst, evE_mref, evE_mem, evE_tab, evE_bin, evE_inv, evE_cmp, evE_isNone, evE_isNoneF, evE_txt, evE_bool, evE_stuck, evE_call0, evE_call1, evE_call2, evE_callV, evE_callT, onI_bind, ob_assoc, ob_map, ob_cond, ob_ite, Option.bind_some, Option.bind_none, *]
mutual
theorem kS_eq : ∀ (s : S) (ρ : Loc) (σ : M) (k : KS), kS c ck s ρ σ k = (exS c cf s ρ σ).bind fun r => k r.1 r.2.1 r.2.2
  | .expr e, ρ, σ, k => by simp only [kS_expr, exS_expr, onI_bind, kE_eq H, ob_map]
  | .asgV v e, ρ, σ, k => by simp only [kS_asgV, exS_asgV, onI_bind, kE_eq H, ob_assoc, ob_ite, Option.bind_some]
  | .asgF f e, ρ, σ, k => by simp only [kS_asgF, exS_asgF, onI_bind, kE_eq H, ob_assoc, ob_map]
  | .asgM i e, ρ, σ, k => by simp only [kS_asgM, exS_asgM, onI_bind, kE_eq H, ob_assoc, ob_map, ob_cond, Option.bind_none]
  | .augV v op e, ρ, σ, k => by simp only [kS_augV, exS_augV, onI_bind, kE_eq H, ob_assoc, ob_ite, Option.bind_some]
  | .augF f op e, ρ, σ, k => by simp only [kS_augF, exS_augF, onI_bind, kE_eq H, ob_assoc, ob_map]
  | .ite t a b, ρ, σ, k => by simp only [kS_ite, exS_ite, onI_bind, kE_eq H, ob_assoc, ob_cond, kSs_eq a, kSs_eq b]
  | .ret e, ρ, σ, k => by simp only [kS_ret, exS_ret, onI_bind, kE_eq H, ob_map]
  | .ret0, ρ, σ, k => rfl
  | .pass, ρ, σ, k => rfl
theorem kSs_eq : ∀ (s : Ss) (ρ : Loc) (σ : M) (k : KS), kSs c ck s ρ σ k = (exSs c cf s ρ σ).bind fun r => k r.1 r.2.1 r.2.2
  | .nil, ρ, σ, k => rfl
  | .cons s r, ρ, σ, k => by
    show kS c ck s ρ σ _ = ((exS c cf s ρ σ).bind _).bind _
    rw [kS_eq s, ob_assoc]
    refine congrArg (Option.bind _) (funext fun q => ?_)
    obtain ⟨fl, ρ₁, σ₁⟩ := q
    cases fl with
    | next => exact kSs_eq r ρ₁ σ₁ k
    | ret v => rfl
end
end
theorem callK_eq (c : Cls) : ∀ (d m : Nat) (args : List V) (σ : M) (k : KM), callK c d m args σ k = (callM c d m args σ).bind fun r => k r.1 r.2
  | 0, _, _, _, _ => rfl
  | d + 1, m, args, σ, k => by
    show (c.P[m]?).bind _ = ((c.P[m]?).bind _).bind _
    rw [ob_assoc]
    refine congrArg (Option.bind _) (funext fun md => ?_)
    rw [ob_ite, kSs_eq (cf := callM c d) (fun m args σ k => callK_eq c d m args σ k), ob_map]
theorem callM_of {c : Cls} {d m : Nat} {args : List V} {σ : M} {r : Option (V × M)} (h : callK c d m args σ (fun v σ => some (v, σ)) = r) : callM c d m args σ = r := by
  rw [callK_eq] at h
  rw [← h]
  cases callM c d m args σ <;> rfl
section
variable {α β : Type}
theorem bE {o : Option α} {a : α} {f : α → Option β} {r : Option β} (h : o = some a) (k : f a = r) : o.bind f = r := by rw [h]; exact k
theorem cE {b : Bool} {x y r : α} (h1 : b = true → x = r) (h2 : b = false → y = r) : cond b x y = r := by cases b; exact h2 rfl; exact h1 rfl
theorem iE {p : Prop} [Decidable p] {x y r : α} (hp : p) (h : x = r) : (if p then x else y) = r := by rw [if_pos hp]; exact h
end
end Mine

end
section
open PySem PySem.W PyProof.Rows
set_option maxRecDepth 100000
set_option maxHeartbeats 0
set_option linter.unusedSimpArgs false
set_option linter.unusedVariables false
namespace Mine
theorem at_len {l : List Int} {k v : Int} (h : at? l k = some v) : 0 ≤ k ∧ k.toNat < l.length := by
  unfold at? at h
  split at h
  · rename_i q; exact ⟨q, (List.getElem?_eq_some_iff.mp h).1⟩
  · cases h
theorem put_at {l : List Int} {k v : Int} (h : at? l k = some v) (w : Int) : putAt l k w = some (l.set k.toNat w) := by
  unfold putAt
  rw [if_pos (at_len h)]
theorem oct_xor {v : Int} (o : Oct v) : bXor v 255 = 255 - v := oct_ind (P := fun v => bXor v 255 = 255 - v) (by decide +kernel) o
theorem nat_hi (n : Nat) (h : n < 65536) : n &&& 65280 = n / 256 * 256 := by
  have e : n &&& 65280 = ((n / 256) * 256 + n % 256) &&& 65280 := by rw [Nat.div_add_mod']
  apply Nat.eq_of_testBit_eq
  intro i
  rw [Nat.testBit_and, show (65280 : Nat) = 255 * 2 ^ 8 from rfl, show n / 256 * 256 = n / 2 ^ 8 * 2 ^ 8 from rfl, Nat.testBit_mul_two_pow, Nat.testBit_mul_two_pow, Nat.testBit_div_two_pow]
  by_cases hi : 8 ≤ i
  · simp only [hi, decide_true, Bool.true_and]
    rw [show i - 8 + 8 = i by omega]
    by_cases h16 : i < 16
    · have : Nat.testBit 255 (i - 8) = true := by
        have : ∀ j < 8, Nat.testBit 255 j = true := by decide
        exact this _ (by omega)
      rw [this, Bool.and_true]
    · have : n.testBit i = false := Nat.testBit_lt_two_pow (Nat.lt_of_lt_of_le h (Nat.pow_le_pow_right (n := 2) (i := 16) (j := i) (by decide) (by omega)))
      rw [this, Bool.false_and]
  · simp [hi]
theorem hi_of {v : Int} (h : 0 ≤ v) (h1 : v < 65536) : bAnd v 65280 = v / 256 * 256 := by
  obtain ⟨n, rfl⟩ := Int.eq_ofNat_of_zero_le h
  have e1 : decide ((0 : Int) ≤ (n : Int)) = true := decide_eq_true (by lia)
  show Builtin.bitAnd _ _ = _
  unfold Builtin.bitAnd
  rw [e1]
  show ((n &&& 65280 : Nat) : Int) = _
  rw [nat_hi n (by lia)]
  lia
theorem and_128 {v : Int} (h0 : -256 < v) (h1 : v < 256) : bAnd v 128 = cond (decide (128 ≤ v % 256)) 128 0 := by
  by_cases h : 0 ≤ v
  · have e : v % 256 = v := Int.emod_eq_of_lt h h1
    rw [e]; exact oct_128 ⟨h, h1⟩
  · have : Oct (v + 256) := ⟨by lia, by lia⟩
    have g := oct_ind (P := fun u => bAnd (u - 256) 128 = cond (decide (128 ≤ u)) 128 0) (by decide +kernel) this
    have e1 : v + 256 - 256 = v := by lia
    have e2 : v % 256 = v + 256 := by lia
    rw [e1] at g
    rw [e2]; exact g

theorem beq_d (a b : Int) : (a == b) = decide (a = b) := by by_cases h : a = b <;> simp [h]
theorem cond_not {γ : Type} {b : Bool} {x y : γ} : cond (!b) x y = cond b y x := by cases b <;> rfl
theorem shl8 {w : Int} (o : Oct w) : BOp.ev .shl w 8 = some (w * 256) := by
  have : w.natAbs < 2 ^ 64 := by obtain ⟨a, b⟩ := o; lia
  show (if (0 : Int) ≤ 8 ∧ (8 : Int) ≤ 64 ∧ w.natAbs < 2 ^ 64 then some (w * 2 ^ Int.toNat 8) else none) = _
  rw [if_pos ⟨by decide, by decide, this⟩]; rfl
section
variable {γ : Type} {n v bb d i z c : Bool} {w : Int}
theorem fl_NZ (F : Int → γ) (o : Oct w) : cond (w == 0) (F (bOr (bAnd (pk n v bb d i z c) (bNot (bOr 2 128))) 2)) (F (bOr (bAnd (pk n v bb d i z c) (bNot (bOr 2 128))) (bAnd w 128))) = F (pk (decide (128 ≤ w)) v bb d i (decide (w = 0)) c) := by
  rw [pk_nz, pk_orZ, oct_128 o, beq_d]
  by_cases h : w = 0
  · subst h; rfl
  · rw [decide_eq_false h]
    cases decide (128 ≤ w)
    · exact congrArg F (pk_or0 ..)
    · exact congrArg F (pk_orN ..)
theorem fl_NZ' (F : Int → γ) (o : Oct w) : cond (w != 0) (F (bOr (bAnd (pk n v bb d i z c) (bNot (bOr 2 128))) (bAnd w 128))) (F (bOr (bAnd (pk n v bb d i z c) (bNot (bOr 2 128))) 2)) = F (pk (decide (128 ≤ w)) v bb d i (decide (w = 0)) c) := by
  rw [bne, cond_not]; exact fl_NZ F o
theorem c_on : (bAnd (pk n v bb d i z c) 1 != 0) = c := by rw [pk_C]; cases c <;> rfl
theorem z_on : (bAnd (pk n v bb d i z c) 2 != 0) = z := by rw [pk_Z]; cases z <;> rfl
theorem i_on : (bAnd (pk n v bb d i z c) 4 != 0) = i := by rw [pk_I]; cases i <;> rfl
theorem neg_on (o : Oct w) : (bAnd w 128 != 0) = decide (128 ≤ w) := by rw [oct_128 o]; cases decide (128 ≤ w) <;> rfl
theorem fl_CMP {q : Int} (F : Int → γ) (o : Oct w) (oq : Oct q) : cond (q == w) (F (bOr (bOr (bAnd (pk n v bb d i z c) (bNot (bOr (bOr 1 2) 128))) (bOr 1 2)) (bAnd (q - w) 128))) (cond (decide (q > w)) (F (bOr (bOr (bAnd (pk n v bb d i z c) (bNot (bOr (bOr 1 2) 128))) 1) (bAnd (q - w) 128))) (F (bOr (bAnd (pk n v bb d i z c) (bNot (bOr (bOr 1 2) 128))) (bAnd (q - w) 128)))) =
    F (pk (decide (128 ≤ (q - w) % 256)) v bb d i (decide (q = w)) (decide (w ≤ q))) := by
  have orN : ∀ a b : Bool, bOr (pk false v bb d i a b) (cond (decide (128 ≤ (q - w) % 256)) 128 0) = pk (decide (128 ≤ (q - w) % 256)) v bb d i a b := fun a b => by
    cases decide (128 ≤ (q - w) % 256)
    · exact pk_or0 ..
    · exact pk_orN ..
  rw [and_128 (v := q - w) (by obtain ⟨_, _⟩ := o; obtain ⟨_, _⟩ := oq; lia) (by obtain ⟨_, _⟩ := o; obtain ⟨_, _⟩ := oq; lia), pk_czn, pk_orCZ, pk_orC, orN, orN, orN, beq_d]
  by_cases h : q = w
  · rw [decide_eq_true h, decide_eq_true (show w ≤ q by lia)]; rfl
  · rw [decide_eq_false h]
    by_cases g : q > w
    · rw [decide_eq_true g, decide_eq_true (show w ≤ q by lia)]; rfl
    · rw [decide_eq_false g, decide_eq_false (show ¬ w ≤ q by lia)]; rfl
theorem fl_br {pc b t : Int} (F : Int → Int → γ) (o : Oct b) (ht : t = if 128 ≤ b then pc + 1 + b - 256 else pc + 1 + b) (h0 : 0 ≤ t) (h1 : t < 65536) (hp : 0 ≤ pc) (hp1 : pc + 1 < 65536) (same : (pc + 1) / 256 = t / 256) :
    cond (bAnd b 128 != 0) (cond (bAnd (pc + 1) 65280 != bAnd (((pc + 1) - (bXor b 255)) - 1) 65280) (F (bAnd (((pc + 1) - (bXor b 255)) - 1) 65535) ((0 + 1) + 1)) (F (bAnd (((pc + 1) - (bXor b 255)) - 1) 65535) (0 + 1)))
      (cond (bAnd (pc + 1) 65280 != bAnd ((pc + 1) + b) 65280) (F (bAnd ((pc + 1) + b) 65535) ((0 + 1) + 1)) (F (bAnd ((pc + 1) + b) 65535) (0 + 1))) = F t 1 := by
  have key : cond (bAnd (pc + 1) 65280 != bAnd t 65280) (F (bAnd t 65535) ((0 + 1) + 1)) (F (bAnd t 65535) (0 + 1)) = F t 1 := by
    rw [hi_of (by lia) hp1, hi_of h0 h1, same, and_65535 h0 h1, bne_self_eq_false]; rfl
  rw [neg_on o, oct_xor o]
  by_cases h : 128 ≤ b
  · rw [if_pos h] at ht
    rw [decide_eq_true h, show pc + 1 - (255 - b) - 1 = t by lia]; exact key
  · rw [if_neg h] at ht
    rw [decide_eq_false h, show pc + 1 + b = t by lia]; exact key
end
end Mine

end
section
open PySem PySem.W PyProof.Rows
set_option maxRecDepth 100000
set_option maxHeartbeats 0
namespace Mine
noncomputable abbrev pw : Program := PySem.Challenge.pw_lr0005_01
noncomputable def clsParts : List Stmt × Scope := match (List.drop 1 pw.main.body : List Stmt) with
  | Stmt.ClassDef _ _ _ b _ _ sc _ _ _ _ :: _ => (b, sc)
  | _ => ([], default)
noncomputable def bodyL : List Stmt := clsParts.1
noncomputable def cenv : Env := { scope := clsParts.2, locals := 17, globals := 3, qual := "MPU.", code := .ref 20, frame := some 21, builtins := 0, cells := [] }
noncomputable def cfg : Cfg := { nsA := 17, plA := 19, qual := "MPU.", modV := .str "py65.devices.mpu6502" 187, text := 181, file := "/claim/cut.py", instr := [365, 372, 358, 358, 358, 379, 386, 358, 393, 400, 407, 358, 358, 414, 421, 358, 428, 435, 358, 358, 358, 442, 449, 358, 456, 463, 358, 358, 358, 470, 477, 358, 484, 491, 358, 358, 498, 505, 512, 358, 519, 526, 533, 358, 540, 547, 554, 358, 561, 568, 358, 358, 358, 575, 582, 358, 589, 596, 358, 358, 358, 603, 610, 358, 617, 624, 358, 358, 358, 631, 638, 358, 645, 652, 659, 358, 666, 673, 680, 358, 687, 694, 358, 358, 358, 701, 708, 358, 715, 722, 358, 358, 358, 729, 736, 358, 743, 750, 358, 358, 358, 757, 764, 358, 771, 778, 785, 358, 792, 799, 806, 358, 813, 820, 358, 358, 358, 827, 834, 358, 841, 848, 358, 358, 358, 855, 862, 358, 358, 869, 358, 358, 876, 883, 890, 358, 897, 358, 904, 358, 911, 918, 925, 358, 932, 939, 358, 358, 946, 953, 960, 358, 967, 974, 981, 358, 358, 988, 358, 358, 995, 1002, 1009, 358, 1016, 1023, 1030, 358, 1037, 1044, 1051, 358, 1058, 1065, 1072, 358, 1079, 1086, 358, 358, 1093, 1100, 1107, 358, 1114, 1121, 1128, 358, 1135, 1142, 1149, 358, 1156, 1163, 358, 358, 1170, 1177, 1184, 358, 1191, 1198, 1205, 358, 1212, 1219, 1226, 358, 1233, 1240, 358, 358, 358, 1247, 1254, 358, 1261, 1268, 358, 358, 358, 1275, 1282, 358, 1289, 1296, 358, 358, 1303, 1310, 1317, 358, 1324, 1331, 1338, 358, 1345, 1352, 1359, 358, 1366, 1373, 358, 358, 358, 1380, 1387, 358, 1394, 1401, 358, 358, 358, 1408, 1415, 358] }
noncomputable def S0 (w : World) (os : OsState) : SharedT := ⟨btOf 0 (boot_heap w.params).objs.toList .nil, 11, (boot_heap w.params).life, Array.mk [], boot_drawn, boot_toks, os⟩
theorem s0_abs (w : World) (os : OsState) : (S0 w os).abs = ⟨boot_heap w.params, Array.mk [], boot_drawn, boot_toks, os⟩ := by kernel_rfl
noncomputable abbrev goT (w : World) (n : Nat) (s : SharedT) (t : Thread) := topGoT treeTable pw w 11 (some (.ref 6)) n s t
noncomputable abbrev dr (w : World) {α : Type} (m : Sem α) (s : SC) := drive pw w 11 (some (.ref 6)) m s
noncomputable def R0 (w : World) (os : OsState) : Option (SharedT × Thread) := goT w 80 (S0 w os) (topStub pw)
noncomputable def stk (w : World) (os : OsState) : List Frame := match R0 w os with | some (_, t) => t.stack | none => []
noncomputable def stk1 (w : World) (os : OsState) : Frame := match stk w os with | f :: _ => f | [] => .gen 0 (fun _ => .raise .none) [] (.builtin "" {}) default
noncomputable def stk2 (w : World) (os : OsState) : List Frame := match stk w os with | _ :: r => r | [] => []
noncomputable def ob3 (P : Params) : Obj := { cls := .type "dict", data := .dict [entOf P "__name__" 165 (.str "py65.devices.mpu6502" 187), entOf P "__doc__" 166 (.none), entOf P "__package__" 167 (.none), entOf P "__loader__" 168 (.builtin "__main__.__loader__#opaque"), entOf P "__spec__" 169 (.none), entOf P "__annotations__" 170 (.ref 6), entOf P "__builtins__" 171 (.ref 4), entOf P "__file__" 173 (.str "/claim/cut.py" 172), entOf P "__cached__" 174 (.none)].toArray 9 }
noncomputable def ob11 : Obj := { cls := .type "tuple", data := .seq [].toArray 0 }
noncomputable def ob12 : Obj := { cls := .none, data := .fields [.int (2) 0, .int (0) 0, .ref 20].toArray }
noncomputable def ob13 : Obj := { cls := .type "code", data := .fields [.str "<module>" 182, .str "<module>" 183, .str "/claim/cut.py" 184, .int (1) 0, .int (0) 0, .int (0) 0, .int (0) 0, .int (0) 0, .ref 11, .bool false, .int (181) 0, .ref 12, .none, .none, .none, .none, .int (185) 0, .int (1) 0, .str "/claim/cut.py" 186].toArray }
noncomputable def ob14 : Obj := { cls := .type "frame", data := .plain, slots := #[some (.ref 13), some (.ref 3), some (.ref 3), none, some (.str "__main__" 164), none, some (.ref 0)] }
noncomputable def ob15 : Obj := { cls := .type "tuple", data := .seq [].toArray 0 }
noncomputable def ob16 : Obj := { cls := .type "builtin_function_or_method", data := .fields [.builtin "type.__prepare__", .type "type"].toArray }
noncomputable def ob17 (P : Params) : Obj := { cls := .type "dict", data := .dict [entOf P "__module__" 196 (.str "py65.devices.mpu6502" 187), entOf P "__qualname__" 198 (.str "MPU" 197), entOf P "__firstlineno__" 200 (.int (2) 199)].toArray 3 }
noncomputable def ob18 : Obj := { cls := .type "tuple", data := .seq [].toArray 0 }
noncomputable def ob19 : Obj := { cls := .none, data := .fields [].toArray }
noncomputable def ob20 : Obj := { cls := .type "code", data := .fields [.str "MPU" 191, .str "MPU" 192, .str "/claim/cut.py" 193, .int (2) 0, .int (0) 0, .int (0) 0, .int (0) 0, .int (0) 0, .ref 18, .bool false, .int (181) 0, .ref 19, .none, .none, .none, .none, .int (194) 0, .int (2) 0, .str "/claim/cut.py" 195].toArray }
noncomputable def ob21 : Obj := { cls := .type "frame", data := .plain, slots := #[some (.ref 20), some (.ref 3), some (.ref 17), none, some (.str "py65.devices.mpu6502" 187), none, some (.ref 0)] }
noncomputable def treeB (P : Params) : BT := ((((((((((((btOf 0 (boot_heap P).objs.toList .nil).set 3 (fun _ => (ob3 P))).ins 11 ob11).ins 12 ob12).ins 13 ob13).ins 14 ob14).ins 15 ob15).ins 16 ob16).ins 17 (ob17 P)).ins 18 ob18).ins 19 ob19).ins 20 ob20).ins 21 ob21
noncomputable def Sb (w : World) (os : OsState) : SharedT := ⟨treeB w.params, 22, (boot_heap w.params).life, Array.mk [], boot_drawn, 201, os⟩
noncomputable def acc_0 (P : Params) : Acc := ⟨treeB P, 22, 201, [], []⟩
noncomputable def acc_30 (P : Params) : Acc := laySts P cfg 30 (bodyL.drop 0) (acc_0 P)
noncomputable def acc_60 (P : Params) : Acc := laySts P cfg 30 (bodyL.drop 30) (acc_30 P)
noncomputable def acc_90 (P : Params) : Acc := laySts P cfg 30 (bodyL.drop 60) (acc_60 P)
noncomputable def acc_120 (P : Params) : Acc := laySts P cfg 30 (bodyL.drop 90) (acc_90 P)
noncomputable def acc_150 (P : Params) : Acc := laySts P cfg 30 (bodyL.drop 120) (acc_120 P)
noncomputable def acc_180 (P : Params) : Acc := laySts P cfg 30 (bodyL.drop 150) (acc_150 P)
noncomputable def acc_210 (P : Params) : Acc := laySts P cfg 30 (bodyL.drop 180) (acc_180 P)
noncomputable def acc_214 (P : Params) : Acc := laySts P cfg 4 (bodyL.drop 210) (acc_210 P)
noncomputable def acc_215 (P : Params) : Acc := laySts P cfg 1 (bodyL.drop 214) (acc_214 P)
noncomputable def acc_216 (P : Params) : Acc := laySts P cfg 1 (bodyL.drop 215) (acc_215 P)
noncomputable def acc_217 (P : Params) : Acc := laySts P cfg 1 (bodyL.drop 216) (acc_216 P)
noncomputable def St0 (w : World) (os : OsState) : SC := accState cfg (Sb w os) (acc_0 w.params) 0
noncomputable def St30 (w : World) (os : OsState) : SC := accState cfg (Sb w os) (acc_30 w.params) 612
noncomputable def St60 (w : World) (os : OsState) : SC := accState cfg (Sb w os) (acc_60 w.params) 1576
noncomputable def St90 (w : World) (os : OsState) : SC := accState cfg (Sb w os) (acc_90 w.params) 2479
noncomputable def St120 (w : World) (os : OsState) : SC := accState cfg (Sb w os) (acc_120 w.params) 3379
noncomputable def St150 (w : World) (os : OsState) : SC := accState cfg (Sb w os) (acc_150 w.params) 4280
noncomputable def St180 (w : World) (os : OsState) : SC := accState cfg (Sb w os) (acc_180 w.params) 5180
noncomputable def St210 (w : World) (os : OsState) : SC := accState cfg (Sb w os) (acc_210 w.params) 6080
noncomputable def St214 (w : World) (os : OsState) : SC := accState cfg (Sb w os) (acc_214 w.params) 6200
noncomputable def St215 (w : World) (os : OsState) : SC := accState cfg (Sb w os) (acc_215 w.params) 6979
noncomputable def St216 (w : World) (os : OsState) : SC := accState cfg (Sb w os) (acc_216 w.params) 7246
noncomputable def St217 (w : World) (os : OsState) : SC := accState cfg (Sb w os) (acc_217 w.params) 7513
noncomputable def cur0 : Sem Fin := ((execs bodyL cenv).onRaise (leaving cenv)).bind fun f => .pure (.done f)
theorem c_head (w : World) (os : OsState) : goT w 80 (S0 w os) (topStub pw) = some ((St0 w os).s, ⟨cur0, .body bodyL cenv, ⟨2, 0, 1038, 786⟩, stk1 w os :: stk2 w os⟩) := by kernel_rfl
theorem d_0 (w : World) (os : OsState) : dr w (execs ((bodyL.drop 0).take 30) cenv) (St0 w os) = some (.next, St30 w os) := by kernel_rfl
theorem d_30 (w : World) (os : OsState) : dr w (execs ((bodyL.drop 30).take 30) cenv) (St30 w os) = some (.next, St60 w os) := by kernel_rfl
theorem d_60 (w : World) (os : OsState) : dr w (execs ((bodyL.drop 60).take 30) cenv) (St60 w os) = some (.next, St90 w os) := by kernel_rfl
theorem d_90 (w : World) (os : OsState) : dr w (execs ((bodyL.drop 90).take 30) cenv) (St90 w os) = some (.next, St120 w os) := by kernel_rfl
theorem d_120 (w : World) (os : OsState) : dr w (execs ((bodyL.drop 120).take 30) cenv) (St120 w os) = some (.next, St150 w os) := by kernel_rfl
theorem d_150 (w : World) (os : OsState) : dr w (execs ((bodyL.drop 150).take 30) cenv) (St150 w os) = some (.next, St180 w os) := by kernel_rfl
theorem d_180 (w : World) (os : OsState) : dr w (execs ((bodyL.drop 180).take 30) cenv) (St180 w os) = some (.next, St210 w os) := by kernel_rfl
theorem d_210 (w : World) (os : OsState) : dr w (execs ((bodyL.drop 210).take 4) cenv) (St210 w os) = some (.next, St214 w os) := by kernel_rfl
noncomputable def lp214 : Str × Pos × List PySem.Expr × Pos × Pos := match bodyL.drop 214 with | .Assign [.Name id p1] (.List elts p2) p3 :: _ => (id, p1, elts, p2, p3) | _ => (Str.empty, default, [], default, default)
theorem lp214_eq : (bodyL.drop 214).take 1 = [.Assign [.Name lp214.1 lp214.2.1] (.List lp214.2.2.1 lp214.2.2.2.1) lp214.2.2.2.2] := by kernel_rfl
noncomputable def nsObj (w : World) (os : OsState) : Obj := ((St214 w os).T.get 17).getD default
theorem names_ok1 (w : World) (os : OsState) : lp214.2.2.1.map (nameRow cenv (nsObj w os)) = cfg.instr.map goodRow := by kernel_rfl
theorem names_ok2 (w : World) (os : OsState) : (St214 w os).T.get cenv.locals = some (nsObj w os) := by kernel_rfl
theorem names_ok3 (w : World) (os : OsState) : alive (nsObj w os) = some (nsObj w os) := by kernel_rfl
theorem names_ok4 (w : World) (os : OsState) : ((nsObj w os).cls == .type "dict") = true := by kernel_rfl
theorem names_ok5 (w : World) (os : OsState) : Nat.blt cenv.locals (St214 w os).n = true := by kernel_rfl
theorem l_214b (w : World) (os : OsState) : drive pw w 11 (some (.ref 6)) (newList (cfg.instr.map Value.ref) >>= fun v => standAt lp214.2.1 >>= fun _ => bindName cenv lp214.1 v >>= fun _ => pure Flow.next) (((St214 w os).up 2).up (3 * 256)) = some (.next, St215 w os) := by kernel_rfl
theorem d_214 (w : World) (os : OsState) : dr w (execs ((bodyL.drop 214).take 1) cenv) (St214 w os) = some (.next, St215 w os) :=
  names_stmt lp214_eq (by kernel_rfl) (names_ok3 w os) (names_ok4 w os) (names_ok5 w os) (names_ok2 w os) (names_ok1 w os) (by kernel_rfl) (l_214b w os)
noncomputable def lp215 : Str × Pos × List PySem.Expr × Pos × Pos := match bodyL.drop 215 with | .Assign [.Name id p1] (.List elts p2) p3 :: _ => (id, p1, elts, p2, p3) | _ => (Str.empty, default, [], default, default)
theorem lp215_eq : (bodyL.drop 215).take 1 = [.Assign [.Name lp215.1 lp215.2.1] (.List lp215.2.2.1 lp215.2.2.2.1) lp215.2.2.2.2] := by kernel_rfl
theorem l_215b (w : World) (os : OsState) : drive pw w 11 (some (.ref 6)) (newList (intsAt (St215 w os).toks lp215.2.2.1) >>= fun v => standAt lp215.2.1 >>= fun _ => bindName cenv lp215.1 v >>= fun _ => pure Flow.next) { (St215 w os) with toks := (St215 w os).toks + 256, c := (St215 w os).c + 2 + 256 } = some (.next, St216 w os) := by kernel_rfl
theorem d_215 (w : World) (os : OsState) : dr w (execs ((bodyL.drop 215).take 1) cenv) (St215 w os) = some (.next, St216 w os) :=
  ints_stmt lp215_eq (by kernel_rfl) (by kernel_rfl) (l_215b w os)
noncomputable def lp216 : Str × Pos × List PySem.Expr × Pos × Pos := match bodyL.drop 216 with | .Assign [.Name id p1] (.List elts p2) p3 :: _ => (id, p1, elts, p2, p3) | _ => (Str.empty, default, [], default, default)
theorem lp216_eq : (bodyL.drop 216).take 1 = [.Assign [.Name lp216.1 lp216.2.1] (.List lp216.2.2.1 lp216.2.2.2.1) lp216.2.2.2.2] := by kernel_rfl
theorem l_216b (w : World) (os : OsState) : drive pw w 11 (some (.ref 6)) (newList (intsAt (St216 w os).toks lp216.2.2.1) >>= fun v => standAt lp216.2.1 >>= fun _ => bindName cenv lp216.1 v >>= fun _ => pure Flow.next) { (St216 w os) with toks := (St216 w os).toks + 256, c := (St216 w os).c + 2 + 256 } = some (.next, St217 w os) := by kernel_rfl
theorem d_216 (w : World) (os : OsState) : dr w (execs ((bodyL.drop 216).take 1) cenv) (St216 w os) = some (.next, St217 w os) :=
  ints_stmt lp216_eq (by kernel_rfl) (by kernel_rfl) (l_216b w os)
theorem e_217 (w : World) (os : OsState) : dr w (execs (bodyL.drop 217) cenv) (St217 w os) = some (.next, St217 w os) := by
  rw [show bodyL.drop 217 = [] by kernel_rfl]; rfl
theorem e_216 (w : World) (os : OsState) : dr w (execs (bodyL.drop 216) cenv) (St216 w os) = some (.next, St217 w os) := by
  have h := drive_execs (p := pw) (w := w) (n₀ := 11) (ann := some (.ref 6)) (env := cenv) ((bodyL.drop 216).take 1) (bodyL.drop 217) _ _ _ (d_216 w os) (e_217 w os)
  rwa [show bodyL.drop 217 = (bodyL.drop 216).drop 1 by rw [List.drop_drop], List.take_append_drop] at h
theorem e_215 (w : World) (os : OsState) : dr w (execs (bodyL.drop 215) cenv) (St215 w os) = some (.next, St217 w os) := by
  have h := drive_execs (p := pw) (w := w) (n₀ := 11) (ann := some (.ref 6)) (env := cenv) ((bodyL.drop 215).take 1) (bodyL.drop 216) _ _ _ (d_215 w os) (e_216 w os)
  rwa [show bodyL.drop 216 = (bodyL.drop 215).drop 1 by rw [List.drop_drop], List.take_append_drop] at h
theorem e_214 (w : World) (os : OsState) : dr w (execs (bodyL.drop 214) cenv) (St214 w os) = some (.next, St217 w os) := by
  have h := drive_execs (p := pw) (w := w) (n₀ := 11) (ann := some (.ref 6)) (env := cenv) ((bodyL.drop 214).take 1) (bodyL.drop 215) _ _ _ (d_214 w os) (e_215 w os)
  rwa [show bodyL.drop 215 = (bodyL.drop 214).drop 1 by rw [List.drop_drop], List.take_append_drop] at h
theorem e_210 (w : World) (os : OsState) : dr w (execs (bodyL.drop 210) cenv) (St210 w os) = some (.next, St217 w os) := by
  have h := drive_execs (p := pw) (w := w) (n₀ := 11) (ann := some (.ref 6)) (env := cenv) ((bodyL.drop 210).take 4) (bodyL.drop 214) _ _ _ (d_210 w os) (e_214 w os)
  rwa [show bodyL.drop 214 = (bodyL.drop 210).drop 4 by rw [List.drop_drop], List.take_append_drop] at h
theorem e_180 (w : World) (os : OsState) : dr w (execs (bodyL.drop 180) cenv) (St180 w os) = some (.next, St217 w os) := by
  have h := drive_execs (p := pw) (w := w) (n₀ := 11) (ann := some (.ref 6)) (env := cenv) ((bodyL.drop 180).take 30) (bodyL.drop 210) _ _ _ (d_180 w os) (e_210 w os)
  rwa [show bodyL.drop 210 = (bodyL.drop 180).drop 30 by rw [List.drop_drop], List.take_append_drop] at h
theorem e_150 (w : World) (os : OsState) : dr w (execs (bodyL.drop 150) cenv) (St150 w os) = some (.next, St217 w os) := by
  have h := drive_execs (p := pw) (w := w) (n₀ := 11) (ann := some (.ref 6)) (env := cenv) ((bodyL.drop 150).take 30) (bodyL.drop 180) _ _ _ (d_150 w os) (e_180 w os)
  rwa [show bodyL.drop 180 = (bodyL.drop 150).drop 30 by rw [List.drop_drop], List.take_append_drop] at h
theorem e_120 (w : World) (os : OsState) : dr w (execs (bodyL.drop 120) cenv) (St120 w os) = some (.next, St217 w os) := by
  have h := drive_execs (p := pw) (w := w) (n₀ := 11) (ann := some (.ref 6)) (env := cenv) ((bodyL.drop 120).take 30) (bodyL.drop 150) _ _ _ (d_120 w os) (e_150 w os)
  rwa [show bodyL.drop 150 = (bodyL.drop 120).drop 30 by rw [List.drop_drop], List.take_append_drop] at h
theorem e_90 (w : World) (os : OsState) : dr w (execs (bodyL.drop 90) cenv) (St90 w os) = some (.next, St217 w os) := by
  have h := drive_execs (p := pw) (w := w) (n₀ := 11) (ann := some (.ref 6)) (env := cenv) ((bodyL.drop 90).take 30) (bodyL.drop 120) _ _ _ (d_90 w os) (e_120 w os)
  rwa [show bodyL.drop 120 = (bodyL.drop 90).drop 30 by rw [List.drop_drop], List.take_append_drop] at h
theorem e_60 (w : World) (os : OsState) : dr w (execs (bodyL.drop 60) cenv) (St60 w os) = some (.next, St217 w os) := by
  have h := drive_execs (p := pw) (w := w) (n₀ := 11) (ann := some (.ref 6)) (env := cenv) ((bodyL.drop 60).take 30) (bodyL.drop 90) _ _ _ (d_60 w os) (e_90 w os)
  rwa [show bodyL.drop 90 = (bodyL.drop 60).drop 30 by rw [List.drop_drop], List.take_append_drop] at h
theorem e_30 (w : World) (os : OsState) : dr w (execs (bodyL.drop 30) cenv) (St30 w os) = some (.next, St217 w os) := by
  have h := drive_execs (p := pw) (w := w) (n₀ := 11) (ann := some (.ref 6)) (env := cenv) ((bodyL.drop 30).take 30) (bodyL.drop 60) _ _ _ (d_30 w os) (e_60 w os)
  rwa [show bodyL.drop 60 = (bodyL.drop 30).drop 30 by rw [List.drop_drop], List.take_append_drop] at h
theorem e_0 (w : World) (os : OsState) : dr w (execs (bodyL.drop 0) cenv) (St0 w os) = some (.next, St217 w os) := by
  have h := drive_execs (p := pw) (w := w) (n₀ := 11) (ann := some (.ref 6)) (env := cenv) ((bodyL.drop 0).take 30) (bodyL.drop 30) _ _ _ (d_0 w os) (e_30 w os)
  rwa [show bodyL.drop 30 = (bodyL.drop 0).drop 30 by rw [List.drop_drop], List.take_append_drop] at h
noncomputable def thrEnd (w : World) (os : OsState) : Thread := match goT w 1 (St217 w os).s ⟨.pure (.done .next), .body bodyL cenv, default, stk1 w os :: stk2 w os⟩ with | some (_, t) => t | none => topStub pw
theorem t_end (w : World) (os : OsState) (pos : Pos) : goT w 1 (St217 w os).s ⟨.pure (.done .next), .body bodyL cenv, pos, stk1 w os :: stk2 w os⟩ = some ((St217 w os).s, thrEnd w os) := by kernel_rfl
noncomputable def Rf (w : World) (os : OsState) : Option SharedT := topRunT treeTable pw w 11 (some (.ref 6)) 384 (St217 w os).s (thrEnd w os)
noncomputable def Ff (w : World) (os : OsState) : SharedT := match Rf w os with | some s => s | none => S0 w os
theorem rf_some (w : World) (os : OsState) : Rf w os = some (Ff w os) := by kernel_rfl
theorem top_run (w : World) (os : OsState) : ∃ M, M ≤ 16054 ∧ topRun treeTable pw w 11 (some (.ref 6)) M ⟨boot_heap w.params, Array.mk [], boot_drawn, boot_toks, os⟩ (topStub pw) = some (Ff w os).abs := by
  obtain ⟨m, hc, hm⟩ := drive_goes (tb := treeTable) (p := pw) (w := w) (n₀ := 11) (ann := some (.ref 6)) ((execs bodyL cenv).onRaise (leaving cenv)) (St0 w os) .next (St217 w os) (drive_onRaise _ _ _ _ (e_0 w os))
  have hm' : m = 7513 := by
    have : 7513 = 0 + m := hc
    omega
  subst hm'
  obtain ⟨pos', h⟩ := hm (fun f => .pure (.done f)) (.body bodyL cenv) ⟨2, 0, 1038, 786⟩ (stk1 w os) (stk2 w os)
  have r := goT_top (c_head w os) (goT_top h (goT_top (t_end w os pos') (topRun_of (rf_some w os))))
  rw [s0_abs] at r
  exact ⟨_, by decide, r⟩

end Mine

end
section
open PySem PySem.W PyProof.Rows
set_option maxRecDepth 100000
set_option maxHeartbeats 0
namespace Mine
noncomputable def md_init : MethD := { nm := "__init__", np := 3, vars := ["self", "memory", "pc"], body := (.cons (.asgF .name .txt) (.cons (.asgF .bm (.bin .sub (.bin .shl (.int 1) (.cst 11)) (.int 1))) (.cons (.asgF .am (.bin .sub (.bin .shl (.int 1) (.cst 12)) (.int 1))) (.cons (.asgF .ahm (.bin .shl (.fld .bm) (.cst 11))) (.cons (.asgF .spb (.bin .shl (.int 1) (.cst 11))) (.cons (.asgF .exc (.int 0)) (.cons (.asgF .addc (.bool false)) (.cons (.asgF .cyc (.int 0)) (.cons (.ite (.isNone 1) (.cons (.asgV 1 .stuck) .nil) .nil) (.cons (.asgF .mem (.var 1)) (.cons (.asgF .start (.var 2)) (.cons (.expr (.call0 2)) .nil)))))))))))) }
noncomputable def md_step : MethD := { nm := "step", np := 1, vars := ["self", "instructCode"], body := (.cons (.asgV 1 (.mem (.fld .pc))) (.cons (.asgF .pc (.bin .and (.bin .add (.fld .pc) (.int 1)) (.fld .am))) (.cons (.asgF .exc (.int 0)) (.cons (.asgF .addc (.tab 1 (.var 1))) (.cons (.expr (.callT (.var 1))) (.cons (.augF .pc .and (.fld .am)) (.cons (.augF .cyc .add (.bin .add (.tab 0 (.var 1)) (.fld .exc))) (.cons (.ret (.var 0)) .nil)))))))) }
noncomputable def md_reset : MethD := { nm := "reset", np := 1, vars := ["self"], body := (.cons (.asgF .pc (.fld .start)) (.cons (.ite (.isNoneF .pc) (.cons (.asgF .pc (.call1 6 (.cst 0))) .nil) .nil) (.cons (.asgF .sp (.fld .bm)) (.cons (.asgF .a (.int 0)) (.cons (.asgF .x (.int 0)) (.cons (.asgF .y (.int 0)) (.cons (.asgF .p (.bin .or (.cst 6) (.cst 5))) (.cons (.asgF .cyc (.int 0)) .nil)))))))) }
noncomputable def md_irq : MethD := { nm := "irq", np := 1, vars := ["self"], body := (.cons (.ite (.bin .and (.fld .p) (.cst 8)) (.cons .ret0 .nil) .nil) (.cons (.expr (.call1 15 (.fld .pc))) (.cons (.augF .p .and (.inv (.cst 6))) (.cons (.expr (.call1 13 (.bin .or (.fld .p) (.cst 5)))) (.cons (.augF .p .or (.cst 8)) (.cons (.asgF .pc (.call1 6 (.cst 2))) (.cons (.augF .cyc .add (.int 7)) .nil))))))) }
noncomputable def md_nmi : MethD := { nm := "nmi", np := 1, vars := ["self"], body := (.cons (.expr (.call1 15 (.fld .pc))) (.cons (.augF .p .and (.inv (.cst 6))) (.cons (.expr (.call1 13 (.bin .or (.fld .p) (.cst 5)))) (.cons (.augF .p .or (.cst 8)) (.cons (.asgF .pc (.call1 6 (.cst 1))) (.cons (.augF .cyc .add (.int 7)) .nil)))))) }
noncomputable def md_ByteAt : MethD := { nm := "ByteAt", np := 2, vars := ["self", "addr"], body := (.cons (.ret (.mem (.var 1))) .nil) }
noncomputable def md_WordAt : MethD := { nm := "WordAt", np := 2, vars := ["self", "addr"], body := (.cons (.ret (.bin .add (.call1 5 (.var 1)) (.bin .shl (.call1 5 (.bin .add (.var 1) (.int 1))) (.cst 11)))) .nil) }
noncomputable def md_ProgramCounter : MethD := { nm := "ProgramCounter", np := 1, vars := ["self"], body := (.cons (.ret (.fld .pc)) .nil) }
noncomputable def md_ImmediateByte : MethD := { nm := "ImmediateByte", np := 1, vars := ["self"], body := (.cons (.ret (.call1 5 (.fld .pc))) .nil) }
noncomputable def md_ZeroPageAddr : MethD := { nm := "ZeroPageAddr", np := 1, vars := ["self"], body := (.cons (.ret (.call1 5 (.fld .pc))) .nil) }
noncomputable def md_AbsoluteAddr : MethD := { nm := "AbsoluteAddr", np := 1, vars := ["self"], body := (.cons (.ret (.call1 6 (.fld .pc))) .nil) }
noncomputable def md_AbsoluteXAddr : MethD := { nm := "AbsoluteXAddr", np := 1, vars := ["self", "a1", "a2"], body := (.cons (.ite (.fld .addc) (.cons (.asgV 1 (.call1 6 (.fld .pc))) (.cons (.asgV 2 (.bin .and (.bin .add (.var 1) (.fld .x)) (.fld .am))) (.cons (.ite (.cmp .ne (.bin .and (.var 1) (.fld .ahm)) (.bin .and (.var 2) (.fld .ahm))) (.cons (.augF .exc .add (.int 1)) .nil) .nil) (.cons (.ret (.var 2)) .nil)))) (.cons (.ret (.bin .and (.bin .add (.call1 6 (.fld .pc)) (.fld .x)) (.fld .am))) .nil)) .nil) }
noncomputable def md_BranchRelAddr : MethD := { nm := "BranchRelAddr", np := 1, vars := ["self", "addr"], body := (.cons (.augF .exc .add (.int 1)) (.cons (.asgV 1 (.call0 8)) (.cons (.augF .pc .add (.int 1)) (.cons (.ite (.bin .and (.var 1) (.cst 3)) (.cons (.asgV 1 (.bin .sub (.bin .sub (.fld .pc) (.bin .xor (.var 1) (.fld .bm))) (.int 1))) .nil) (.cons (.asgV 1 (.bin .add (.fld .pc) (.var 1))) .nil)) (.cons (.ite (.cmp .ne (.bin .and (.fld .pc) (.fld .ahm)) (.bin .and (.var 1) (.fld .ahm))) (.cons (.augF .exc .add (.int 1)) .nil) .nil) (.cons (.asgF .pc (.bin .and (.var 1) (.fld .am))) .nil)))))) }
noncomputable def md_stPush : MethD := { nm := "stPush", np := 2, vars := ["self", "z"], body := (.cons (.asgM (.bin .add (.fld .sp) (.fld .spb)) (.bin .and (.var 1) (.fld .bm))) (.cons (.augF .sp .sub (.int 1)) (.cons (.augF .sp .and (.fld .bm)) .nil))) }
noncomputable def md_stPop : MethD := { nm := "stPop", np := 1, vars := ["self"], body := (.cons (.augF .sp .add (.int 1)) (.cons (.augF .sp .and (.fld .bm)) (.cons (.ret (.call1 5 (.bin .add (.fld .sp) (.fld .spb)))) .nil))) }
noncomputable def md_stPushWord : MethD := { nm := "stPushWord", np := 2, vars := ["self", "z"], body := (.cons (.expr (.call1 13 (.bin .and (.bin .shr (.var 1) (.cst 11)) (.fld .bm)))) (.cons (.expr (.call1 13 (.bin .and (.var 1) (.fld .bm)))) .nil)) }
noncomputable def md_stPopWord : MethD := { nm := "stPopWord", np := 1, vars := ["self", "z"], body := (.cons (.asgV 1 (.call0 14)) (.cons (.augV 1 .add (.bin .shl (.call0 14) (.cst 11))) (.cons (.ret (.var 1)) .nil))) }
noncomputable def md_FlagsNZ : MethD := { nm := "FlagsNZ", np := 2, vars := ["self", "value"], body := (.cons (.augF .p .and (.inv (.bin .or (.cst 9) (.cst 3)))) (.cons (.ite (.cmp .eq (.var 1) (.int 0)) (.cons (.augF .p .or (.cst 9)) .nil) (.cons (.augF .p .or (.bin .and (.var 1) (.cst 3))) .nil)) .nil)) }
noncomputable def md_opBCL : MethD := { nm := "opBCL", np := 2, vars := ["self", "x"], body := (.cons (.ite (.bin .and (.fld .p) (.var 1)) (.cons (.augF .pc .add (.int 1)) .nil) (.cons (.expr (.call0 12)) .nil)) .nil) }
noncomputable def md_opBST : MethD := { nm := "opBST", np := 2, vars := ["self", "x"], body := (.cons (.ite (.bin .and (.fld .p) (.var 1)) (.cons (.expr (.call0 12)) .nil) (.cons (.augF .pc .add (.int 1)) .nil)) .nil) }
noncomputable def md_opAND : MethD := { nm := "opAND", np := 2, vars := ["self", "x"], body := (.cons (.augF .a .and (.call1 5 (.callV 1))) (.cons (.expr (.call1 17 (.fld .a))) .nil)) }
noncomputable def md_opSTA : MethD := { nm := "opSTA", np := 2, vars := ["self", "x"], body := (.cons (.asgM (.callV 1) (.fld .a)) .nil) }
noncomputable def md_opCMPR : MethD := { nm := "opCMPR", np := 3, vars := ["self", "get_address", "register_value", "tbyte"], body := (.cons (.asgV 3 (.call1 5 (.callV 1))) (.cons (.augF .p .and (.inv (.bin .or (.bin .or (.cst 10) (.cst 9)) (.cst 3)))) (.cons (.ite (.cmp .eq (.var 2) (.var 3)) (.cons (.augF .p .or (.bin .or (.cst 10) (.cst 9))) .nil) (.cons (.ite (.cmp .gt (.var 2) (.var 3)) (.cons (.augF .p .or (.cst 10)) .nil) .nil) .nil)) (.cons (.augF .p .or (.bin .and (.bin .sub (.var 2) (.var 3)) (.cst 3))) .nil)))) }
noncomputable def md_opINCR : MethD := { nm := "opINCR", np := 2, vars := ["self", "x", "tbyte", "addr"], body := (.cons (.ite (.isNone 1) (.cons (.asgV 2 (.fld .a)) .nil) (.cons (.asgV 3 (.callV 1)) (.cons (.asgV 2 (.call1 5 (.var 3))) .nil))) (.cons (.augF .p .and (.inv (.bin .or (.cst 9) (.cst 3)))) (.cons (.asgV 2 (.bin .and (.bin .add (.var 2) (.int 1)) (.fld .bm))) (.cons (.ite (.var 2) (.cons (.augF .p .or (.bin .and (.var 2) (.cst 3))) .nil) (.cons (.augF .p .or (.cst 9)) .nil)) (.cons (.ite (.isNone 1) (.cons (.asgF .a (.var 2)) .nil) (.cons (.asgM (.var 3) (.var 2)) .nil)) .nil))))) }
noncomputable def md_opLDA : MethD := { nm := "opLDA", np := 2, vars := ["self", "x"], body := (.cons (.asgF .a (.call1 5 (.callV 1))) (.cons (.expr (.call1 17 (.fld .a))) .nil)) }
noncomputable def md_opLDX : MethD := { nm := "opLDX", np := 2, vars := ["self", "y"], body := (.cons (.asgF .x (.call1 5 (.callV 1))) (.cons (.expr (.call1 17 (.fld .x))) .nil)) }
noncomputable def md_inst_0x29 : MethD := { nm := "inst_0x29", np := 1, vars := ["self"], body := (.cons (.expr (.call1 20 (.mref 7))) (.cons (.augF .pc .add (.int 1)) .nil)) }
noncomputable def md_inst_0x40 : MethD := { nm := "inst_0x40", np := 1, vars := ["self"], body := (.cons (.asgF .p (.bin .or (.bin .or (.call0 14) (.cst 6)) (.cst 5))) (.cons (.asgF .pc (.call0 16)) .nil)) }
noncomputable def md_inst_0x48 : MethD := { nm := "inst_0x48", np := 1, vars := ["self"], body := (.cons (.expr (.call1 13 (.fld .a))) .nil) }
noncomputable def md_inst_0x4c : MethD := { nm := "inst_0x4c", np := 1, vars := ["self"], body := (.cons (.asgF .pc (.call1 6 (.fld .pc))) .nil) }
noncomputable def md_inst_0x68 : MethD := { nm := "inst_0x68", np := 1, vars := ["self"], body := (.cons (.asgF .a (.call0 14)) (.cons (.expr (.call1 17 (.fld .a))) .nil)) }
noncomputable def md_inst_0x85 : MethD := { nm := "inst_0x85", np := 1, vars := ["self"], body := (.cons (.expr (.call1 21 (.mref 9))) (.cons (.augF .pc .add (.int 1)) .nil)) }
noncomputable def md_inst_0x8a : MethD := { nm := "inst_0x8a", np := 1, vars := ["self"], body := (.cons (.asgF .a (.fld .x)) (.cons (.expr (.call1 17 (.fld .a))) .nil)) }
noncomputable def md_inst_0x98 : MethD := { nm := "inst_0x98", np := 1, vars := ["self"], body := (.cons (.asgF .a (.fld .y)) (.cons (.expr (.call1 17 (.fld .a))) .nil)) }
noncomputable def md_inst_0x9d : MethD := { nm := "inst_0x9d", np := 1, vars := ["self"], body := (.cons (.expr (.call1 21 (.mref 11))) (.cons (.augF .pc .add (.int 2)) .nil)) }
noncomputable def md_inst_0xa5 : MethD := { nm := "inst_0xa5", np := 1, vars := ["self"], body := (.cons (.expr (.call1 24 (.mref 9))) (.cons (.augF .pc .add (.int 1)) .nil)) }
noncomputable def md_inst_0xa6 : MethD := { nm := "inst_0xa6", np := 1, vars := ["self"], body := (.cons (.expr (.call1 25 (.mref 9))) (.cons (.augF .pc .add (.int 1)) .nil)) }
noncomputable def md_inst_0xa8 : MethD := { nm := "inst_0xa8", np := 1, vars := ["self"], body := (.cons (.asgF .y (.fld .a)) (.cons (.expr (.call1 17 (.fld .y))) .nil)) }
noncomputable def md_inst_0xaa : MethD := { nm := "inst_0xaa", np := 1, vars := ["self"], body := (.cons (.asgF .x (.fld .a)) (.cons (.expr (.call1 17 (.fld .x))) .nil)) }
noncomputable def md_inst_0xad : MethD := { nm := "inst_0xad", np := 1, vars := ["self"], body := (.cons (.expr (.call1 24 (.mref 10))) (.cons (.augF .pc .add (.int 2)) .nil)) }
noncomputable def md_inst_0xb0 : MethD := { nm := "inst_0xb0", np := 1, vars := ["self"], body := (.cons (.expr (.call1 19 (.cst 10))) .nil) }
noncomputable def md_inst_0xbd : MethD := { nm := "inst_0xbd", np := 1, vars := ["self"], body := (.cons (.expr (.call1 24 (.mref 11))) (.cons (.augF .pc .add (.int 2)) .nil)) }
noncomputable def md_inst_0xc9 : MethD := { nm := "inst_0xc9", np := 1, vars := ["self"], body := (.cons (.expr (.call2 22 (.mref 7) (.fld .a))) (.cons (.augF .pc .add (.int 1)) .nil)) }
noncomputable def md_inst_0xca : MethD := { nm := "inst_0xca", np := 1, vars := ["self"], body := (.cons (.augF .x .sub (.int 1)) (.cons (.augF .x .and (.fld .bm)) (.cons (.expr (.call1 17 (.fld .x))) .nil))) }
noncomputable def md_inst_0xd0 : MethD := { nm := "inst_0xd0", np := 1, vars := ["self"], body := (.cons (.expr (.call1 18 (.cst 9))) .nil) }
noncomputable def md_inst_0xdd : MethD := { nm := "inst_0xdd", np := 1, vars := ["self"], body := (.cons (.expr (.call2 22 (.mref 11) (.fld .a))) (.cons (.augF .pc .add (.int 2)) .nil)) }
noncomputable def md_inst_0xe0 : MethD := { nm := "inst_0xe0", np := 1, vars := ["self"], body := (.cons (.expr (.call2 22 (.mref 7) (.fld .x))) (.cons (.augF .pc .add (.int 1)) .nil)) }
noncomputable def md_inst_0xe4 : MethD := { nm := "inst_0xe4", np := 1, vars := ["self"], body := (.cons (.expr (.call2 22 (.mref 9) (.fld .x))) (.cons (.augF .pc .add (.int 1)) .nil)) }
noncomputable def md_inst_0xe6 : MethD := { nm := "inst_0xe6", np := 1, vars := ["self"], body := (.cons (.expr (.call1 23 (.mref 9))) (.cons (.augF .pc .add (.int 1)) .nil)) }
noncomputable def md_inst_0xe8 : MethD := { nm := "inst_0xe8", np := 1, vars := ["self"], body := (.cons (.augF .x .add (.int 1)) (.cons (.augF .x .and (.fld .bm)) (.cons (.expr (.call1 17 (.fld .x))) .nil))) }
noncomputable def md_inst_0xf0 : MethD := { nm := "inst_0xf0", np := 1, vars := ["self"], body := (.cons (.expr (.call1 19 (.cst 9))) .nil) }
noncomputable def theP : List MethD := [md_init, md_step, md_reset, md_irq, md_nmi, md_ByteAt, md_WordAt, md_ProgramCounter, md_ImmediateByte, md_ZeroPageAddr, md_AbsoluteAddr, md_AbsoluteXAddr, md_BranchRelAddr, md_stPush, md_stPop, md_stPushWord, md_stPopWord, md_FlagsNZ, md_opBCL, md_opBST, md_opAND, md_opSTA, md_opCMPR, md_opINCR, md_opLDA, md_opLDX, md_inst_0x29, md_inst_0x40, md_inst_0x48, md_inst_0x4c, md_inst_0x68, md_inst_0x85, md_inst_0x8a, md_inst_0x98, md_inst_0x9d, md_inst_0xa5, md_inst_0xa6, md_inst_0xa8, md_inst_0xaa, md_inst_0xad, md_inst_0xb0, md_inst_0xbd, md_inst_0xc9, md_inst_0xca, md_inst_0xd0, md_inst_0xdd, md_inst_0xe0, md_inst_0xe4, md_inst_0xe6, md_inst_0xe8, md_inst_0xf0]
noncomputable def theCsts : List (Str × Int) := [("RESET", 65532), ("NMI", 65530), ("IRQ", 65534), ("NEGATIVE", 128), ("OVERFLOW", 64), ("UNUSED", 32), ("BREAK", 16), ("DECIMAL", 8), ("INTERRUPT", 4), ("ZERO", 2), ("CARRY", 1), ("BYTE_WIDTH", 8), ("ADDR_WIDTH", 16)]
noncomputable def tab_cycletime : List Int := [7, 6, 0, 0, 0, 3, 5, 0, 3, 2, 2, 0, 0, 4, 6, 0, 2, 5, 0, 0, 0, 4, 6, 0, 2, 4, 0, 0, 0, 4, 7, 0, 6, 6, 0, 0, 3, 3, 5, 0, 4, 2, 2, 0, 4, 4, 6, 0, 2, 5, 0, 0, 0, 4, 6, 0, 2, 4, 0, 0, 0, 4, 7, 0, 6, 6, 0, 0, 0, 3, 5, 0, 3, 2, 2, 0, 3, 4, 6, 0, 2, 5, 0, 0, 0, 4, 6, 0, 2, 4, 0, 0, 0, 4, 7, 0, 6, 6, 0, 0, 0, 3, 5, 0, 4, 2, 2, 0, 5, 4, 6, 0, 2, 5, 0, 0, 0, 4, 6, 0, 2, 4, 0, 0, 0, 4, 7, 0, 0, 6, 0, 0, 3, 3, 3, 0, 2, 0, 2, 0, 4, 4, 4, 0, 2, 6, 0, 0, 4, 4, 4, 0, 2, 5, 2, 0, 0, 5, 0, 0, 2, 6, 2, 0, 3, 3, 3, 0, 2, 2, 2, 0, 4, 4, 4, 0, 2, 5, 0, 0, 4, 4, 4, 0, 2, 4, 2, 0, 4, 4, 4, 0, 2, 6, 0, 0, 3, 3, 5, 0, 2, 2, 2, 0, 4, 4, 3, 0, 2, 5, 0, 0, 0, 4, 6, 0, 2, 4, 0, 0, 0, 4, 7, 0, 2, 6, 0, 0, 3, 3, 5, 0, 2, 2, 2, 0, 4, 4, 6, 0, 2, 5, 0, 0, 0, 4, 6, 0, 2, 4, 0, 0, 0, 4, 7, 0]
noncomputable def tab_extracycles : List Int := [0, 0, 0, 0, 0, 0, 0, 0, 0, 0, 0, 0, 0, 0, 0, 0, 2, 1, 0, 0, 0, 0, 0, 0, 0, 1, 0, 0, 0, 1, 0, 0, 0, 0, 0, 0, 0, 0, 0, 0, 0, 0, 0, 0, 0, 0, 0, 0, 2, 1, 0, 0, 0, 0, 0, 0, 0, 1, 0, 0, 0, 1, 0, 0, 0, 0, 0, 0, 0, 0, 0, 0, 0, 0, 0, 0, 0, 0, 0, 0, 2, 1, 0, 0, 0, 0, 0, 0, 0, 1, 0, 0, 0, 1, 0, 0, 0, 0, 0, 0, 0, 0, 0, 0, 0, 0, 0, 0, 0, 0, 0, 0, 2, 1, 0, 0, 0, 0, 0, 0, 0, 1, 0, 0, 0, 1, 0, 0, 0, 0, 0, 0, 0, 0, 0, 0, 0, 0, 0, 0, 0, 0, 0, 0, 2, 0, 0, 0, 0, 0, 0, 0, 0, 0, 0, 0, 0, 0, 0, 0, 0, 0, 0, 0, 0, 0, 0, 0, 0, 0, 0, 0, 0, 0, 0, 0, 2, 1, 0, 0, 0, 0, 0, 0, 0, 1, 0, 0, 1, 1, 1, 0, 0, 0, 0, 0, 0, 0, 0, 0, 0, 0, 0, 0, 0, 0, 0, 0, 2, 1, 0, 0, 0, 0, 0, 0, 0, 1, 0, 0, 0, 1, 0, 0, 0, 0, 0, 0, 0, 0, 0, 0, 0, 0, 0, 0, 0, 0, 0, 0, 2, 1, 0, 0, 0, 0, 0, 0, 0, 1, 0, 0, 0, 1, 0, 0]
noncomputable def theTabs : List (Str × List Int) := [("cycletime", tab_cycletime), ("extracycles", tab_extracycles)]
noncomputable def theInstr : List Nat := [73, 74, 72, 72, 72, 75, 76, 72, 77, 78, 79, 72, 72, 80, 81, 72, 82, 83, 72, 72, 72, 84, 85, 72, 86, 87, 72, 72, 72, 88, 89, 72, 90, 91, 72, 72, 92, 93, 94, 72, 95, 26, 96, 72, 97, 98, 99, 72, 100, 101, 72, 72, 72, 102, 103, 72, 104, 105, 72, 72, 72, 106, 107, 72, 27, 108, 72, 72, 72, 109, 110, 72, 28, 111, 112, 72, 29, 113, 114, 72, 115, 116, 72, 72, 72, 117, 118, 72, 119, 120, 72, 72, 72, 121, 122, 72, 123, 124, 72, 72, 72, 125, 126, 72, 30, 127, 128, 72, 129, 130, 131, 72, 132, 133, 72, 72, 72, 134, 135, 72, 136, 137, 72, 72, 72, 138, 139, 72, 72, 140, 72, 72, 141, 31, 142, 72, 143, 72, 32, 72, 144, 145, 146, 72, 147, 148, 72, 72, 149, 150, 151, 72, 33, 152, 153, 72, 72, 34, 72, 72, 154, 155, 156, 72, 157, 35, 36, 72, 37, 158, 38, 72, 159, 39, 160, 72, 40, 161, 72, 72, 162, 163, 164, 72, 165, 166, 167, 72, 168, 41, 169, 72, 170, 171, 72, 72, 172, 173, 174, 72, 175, 42, 43, 72, 176, 177, 178, 72, 44, 179, 72, 72, 72, 180, 181, 72, 182, 183, 72, 72, 72, 45, 184, 72, 46, 185, 72, 72, 47, 186, 48, 72, 49, 187, 188, 72, 189, 190, 191, 72, 50, 192, 72, 72, 72, 193, 194, 72, 195, 196, 72, 72, 72, 197, 198, 72]
noncomputable def cls : Cls := { P := theP, csts := theCsts, tabs := theTabs, instrN := "instruct", instr := theInstr }
noncomputable def iInit : Nat := 0
noncomputable def i_step : Nat := 1
noncomputable def i_irq : Nat := 3
noncomputable def i_nmi : Nat := 4
-- law: 0 script, 1 seeds, 2 count, 3 octets, 4 waits, 5 memory, 6 program, 7 handler, 8 place, 9 kept, 10 mpu, 11 called, 12 wait, 13 turn, 14 low, 15 inside, 16 octet
noncomputable def s_law_0 : LS := (.asg 1 (.bin .add (.comp (.bin .mod (.var 17) (.int 65536)) [] (.lst (.slc (.var 0) .none (.int 24)))) (.disp (.cons (.bin .add (.len (.slc (.var 0) .none (.int 64))) (.int 5)) .nil))))
noncomputable def s_law_1 : LS := (.asg 2 (.bin .add (.int 2) (.len (.slc (.var 0) .none (.int 3)))))
noncomputable def s_law_2 : LS := (.asgC 3 (.comp (.bin .mod (.bin .add (.bin .add (.idx (.var 1) (.bin .mod (.var 17) (.len (.var 1)))) (.bin .fdiv (.idx (.var 1) (.bin .mod (.var 17) (.len (.var 1)))) (.int 256))) (.bin .mul (.int 83) (.var 17))) (.int 256)) [1] (.rng (.var 2))))
noncomputable def s_law_3 : LS := (.asgC 4 (.comp (.bin .add (.int 1) (.bin .mod (.bin .add (.bin .fdiv (.idx (.var 1) (.bin .mod (.var 17) (.len (.var 1)))) (.int 3)) (.bin .mul (.int 5) (.var 17))) (.int 16))) [1] (.rng (.var 2))))
noncomputable def s_law_4 : LS := (.newl 5 (.bin .mul (.disp (.cons (.int 0) .nil)) (.int 65536)))
noncomputable def s_law_5 : LS := (.asg 6 (.disp (.cons (.int 166) (.cons (.int 17) (.cons (.int 228) (.cons (.int 16) (.cons (.int 240) (.cons (.int 250) (.cons (.int 189) (.cons (.int 0) (.cons (.int 6) (.cons (.int 232) (.cons (.int 72) (.cons (.int 138) (.cons (.int 41) (.cons (.int 7) (.cons (.int 133) (.cons (.int 17) (.cons (.int 104) (.cons (.int 166) (.cons (.int 18) (.cons (.int 224) (.cons (.int 0) (.cons (.int 240) (.cons (.int 17) (.cons (.int 221) (.cons (.int 255) (.cons (.int 6) (.cons (.int 176) (.cons (.int 12) (.cons (.int 168) (.cons (.int 189) (.cons (.int 255) (.cons (.int 6) (.cons (.int 157) (.cons (.int 0) (.cons (.int 7) (.cons (.int 152) (.cons (.int 202) (.cons (.int 76) (.cons (.int 19) (.cons (.int 2) (.cons (.int 157) (.cons (.int 0) (.cons (.int 7) (.cons (.int 230) (.cons (.int 18) (.cons (.int 165) (.cons (.int 18) (.cons (.int 201) (.cons (.var 2) (.cons (.int 208) (.cons (.int 205) .nil)))))))))))))))))))))))))))))))))))))))))))))))))))))
noncomputable def s_law_6 : LS := (.asg 7 (.disp (.cons (.int 72) (.cons (.int 138) (.cons (.int 72) (.cons (.int 166) (.cons (.int 16) (.cons (.int 173) (.cons (.int 0) (.cons (.int 208) (.cons (.int 157) (.cons (.int 0) (.cons (.int 6) (.cons (.int 232) (.cons (.int 138) (.cons (.int 41) (.cons (.int 7) (.cons (.int 133) (.cons (.int 16) (.cons (.int 104) (.cons (.int 170) (.cons (.int 104) (.cons (.int 64) .nil)))))))))))))))))))))))
noncomputable def s_law_7 : LS := (.for (.one 8) (.rng (.len (.var 6))) (.cons (.sub 5 (.bin .add (.int 512) (.var 8)) (.idx (.var 6) (.var 8))) .nil))
noncomputable def s_law_8 : LS := (.for (.one 8) (.rng (.len (.var 7))) (.cons (.sub 5 (.bin .add (.int 49152) (.var 8)) (.idx (.var 7) (.var 8))) .nil))
noncomputable def s_law_9 : LS := (.asgN [.sub 5 (.int 65531), .sub 5 (.int 65535)] (.int 192))
noncomputable def s_law_10 : LS := (.newl 9 (.slc (.own 5) .none .none))
noncomputable def s_law_11 : LS := (.mk 10 5 (.int 512))
noncomputable def s_law_12 : LS := (.asgT true [.name 11, .name 12] (.cons (.int 0) (.cons (.idx (.var 4) (.int 0)) .nil)))
noncomputable def s_law_13 : LS := (.for (.one 13) (.rng (.int 900)) (.cons (.ite (.cmp .eq (.attr 10 .pc) (.int 563)) (.cons .brk .nil) .nil) (.cons (.ite (.and (.cmp .lt (.var 11) (.var 2)) (.cmp .le (.var 12) (.int 0))) (.cons (.asgT true [.name 14, .name 15] (.cons (.attr 10 .sp) (.cons (.cmp .ge (.attr 10 .pc) (.int 49152)) .nil))) (.cons (.ite (.not (.var 15)) (.cons (.sub 5 (.int 53248) (.idx (.var 3) (.var 11))) .nil) .nil) (.cons (.ite (.and (.cmp .eq (.bin .mod (.var 11) (.int 2)) (.int 1)) (.not (.var 15))) (.cons (.step 10 4) .nil) (.cons (.step 10 3) .nil)) (.cons (.ite (.or (.and (.var 15) (.cmp .ne (.attr 10 .sp) (.var 14))) (.and (.not (.var 15)) (.cmp .ne (.attr 10 .pc) (.int 49152)))) (.cons (.ret (.bool false)) .nil) .nil) (.cons (.ite (.not (.var 15)) (.cons (.aug 11 .add (.int 1)) (.cons (.ite (.cmp .lt (.var 11) (.var 2)) (.cons (.asg 12 (.idx (.var 4) (.var 11))) .nil) .nil) .nil)) .nil) .nil))))) .nil) (.cons (.aug 12 .sub (.int 1)) (.cons (.step 10 1) .nil)))))
noncomputable def s_law_14 : LS := (.asgN [.sub 9 (.int 16), .sub 9 (.int 17), .sub 9 (.int 18)] (.var 2))
noncomputable def s_law_15 : LS := (.sub 9 (.int 53248) (.idx (.var 3) (.bin .sub (.var 2) (.int 1))))
noncomputable def s_law_16 : LS := (.forE [8, 16] (.var 3) (.cons (.sub 9 (.bin .add (.int 1536) (.var 8)) (.var 16)) .nil))
noncomputable def s_law_17 : LS := (.forE [8, 16] (.sorted (.var 3)) (.cons (.sub 9 (.bin .add (.int 1792) (.var 8)) (.var 16)) .nil))
noncomputable def s_law_18 : LS := (.ite (.cmp .ne (.tup (.cons (.attr 10 .pc) (.cons (.attr 10 .a) (.cons (.attr 10 .sp) (.cons (.bin .mod (.attr 10 .p) (.int 16)) (.cons (.var 11) .nil)))))) (.tup (.cons (.int 563) (.cons (.var 2) (.cons (.int 255) (.cons (.int 3) (.cons (.var 2) .nil))))))) (.cons (.ret (.bool false)) .nil) .nil)
noncomputable def s_law_19 : LS := (.ret (.and (.cmp .eq (.slc (.own 5) .none (.int 256)) (.slc (.own 9) .none (.int 256))) (.cmp .eq (.slc (.own 5) (.int 512) .none) (.slc (.own 9) (.int 512) .none))))
noncomputable def fn_law : FnD := { nm := "law", np := 1, vars := ["script", "seeds", "count", "octets", "waits", "memory", "program", "handler", "place", "kept", "mpu", "called", "wait", "turn", "low", "inside", "octet"], body := (.cons s_law_0 (.cons s_law_1 (.cons s_law_2 (.cons s_law_3 (.cons s_law_4 (.cons s_law_5 (.cons s_law_6 (.cons s_law_7 (.cons s_law_8 (.cons s_law_9 (.cons s_law_10 (.cons s_law_11 (.cons s_law_12 (.cons s_law_13 (.cons s_law_14 (.cons s_law_15 (.cons s_law_16 (.cons s_law_17 (.cons s_law_18 (.cons s_law_19 .nil)))))))))))))))))))) }
noncomputable def theF : List FnD := []
noncomputable def theFuel : Nat := 100
end Mine

end
section
open PySem PySem.W PyProof.Rows
set_option maxRecDepth 100000
set_option maxHeartbeats 0
namespace Mine
noncomputable def mainEs (P : Params) : List DictEntry := [entOf P "__name__" 165 (.str "law_lr0005_01" 2242), entOf P "__doc__" 166 (.none), entOf P "__package__" 167 (.none), entOf P "__loader__" 168 (.builtin "__main__.__loader__#opaque"), entOf P "__spec__" 169 (.none), entOf P "__annotations__" 170 (.ref 6), entOf P "__builtins__" 171 (.ref 4), entOf P "__file__" 173 (.str "/claim/cut.py" 172), entOf P "__cached__" 174 (.none), entOf P "MPU" 2241 (.ref 1421), entOf P "law" 2249 (.ref 1430)]
noncomputable def nsEs (P : Params) : List DictEntry := [entOf P "__module__" 196 (.str "py65.devices.mpu6502" 187), entOf P "__firstlineno__" 200 (.int (2) 199), entOf P "RESET" 202 (.int (65532) 201), entOf P "NMI" 204 (.int (65530) 203), entOf P "IRQ" 206 (.int (65534) 205), entOf P "NEGATIVE" 208 (.int (128) 207), entOf P "OVERFLOW" 210 (.int (64) 209), entOf P "UNUSED" 212 (.int (32) 211), entOf P "BREAK" 214 (.int (16) 213), entOf P "DECIMAL" 216 (.int (8) 215), entOf P "INTERRUPT" 218 (.int (4) 217), entOf P "ZERO" 220 (.int (2) 219), entOf P "CARRY" 222 (.int (1) 221), entOf P "BYTE_WIDTH" 224 (.int (8) 223), entOf P "BYTE_FORMAT" 226 (.str "%02x" 225), entOf P "ADDR_WIDTH" 228 (.int (16) 227), entOf P "ADDR_FORMAT" 230 (.str "%04x" 229), entOf P "__init__" 240 (.ref 29), entOf P "step" 248 (.ref 36), entOf P "reset" 255 (.ref 43), entOf P "irq" 262 (.ref 50), entOf P "nmi" 269 (.ref 57), entOf P "ByteAt" 277 (.ref 64), entOf P "WordAt" 285 (.ref 71), entOf P "WrapAt" 295 (.ref 78), entOf P "ProgramCounter" 302 (.ref 85), entOf P "ImmediateByte" 309 (.ref 92), entOf P "ZeroPageAddr" 316 (.ref 99), entOf P "ZeroPageXAddr" 323 (.ref 106), entOf P "ZeroPageYAddr" 330 (.ref 113), entOf P "IndirectXAddr" 337 (.ref 120), entOf P "IndirectYAddr" 346 (.ref 127), entOf P "AbsoluteAddr" 353 (.ref 134), entOf P "AbsoluteXAddr" 362 (.ref 141), entOf P "AbsoluteYAddr" 371 (.ref 148), entOf P "BranchRelAddr" 379 (.ref 155), entOf P "stPush" 387 (.ref 162), entOf P "stPop" 394 (.ref 169), entOf P "stPushWord" 402 (.ref 176), entOf P "stPopWord" 410 (.ref 183), entOf P "FlagsNZ" 418 (.ref 190), entOf P "opORA" 426 (.ref 197), entOf P "opASL" 436 (.ref 204), entOf P "opLSR" 446 (.ref 211), entOf P "opBCL" 454 (.ref 218), entOf P "opBST" 462 (.ref 225), entOf P "opCLR" 470 (.ref 232), entOf P "opSET" 478 (.ref 239), entOf P "opAND" 486 (.ref 246), entOf P "opBIT" 495 (.ref 253), entOf P "opROL" 505 (.ref 260), entOf P "opEOR" 513 (.ref 267), entOf P "opADC" 531 (.ref 274), entOf P "opROR" 541 (.ref 281), entOf P "opSTA" 549 (.ref 288), entOf P "opSTY" 557 (.ref 295), entOf P "opSTX" 565 (.ref 302), entOf P "opCMPR" 575 (.ref 309), entOf P "opSBC" 592 (.ref 316), entOf P "opDECR" 602 (.ref 323), entOf P "opINCR" 612 (.ref 330), entOf P "opLDA" 620 (.ref 337), entOf P "opLDY" 628 (.ref 344), entOf P "opLDX" 636 (.ref 351), entOf P "inst_not_implemented" 643 (.ref 358), entOf P "inst_0x00" 651 (.ref 365), entOf P "inst_0x01" 658 (.ref 372), entOf P "inst_0x05" 665 (.ref 379), entOf P "inst_0x06" 672 (.ref 386), entOf P "inst_0x08" 679 (.ref 393), entOf P "inst_0x09" 686 (.ref 400), entOf P "inst_0x0a" 693 (.ref 407), entOf P "inst_0x0d" 700 (.ref 414), entOf P "inst_0x0e" 707 (.ref 421), entOf P "inst_0x10" 714 (.ref 428), entOf P "inst_0x11" 721 (.ref 435), entOf P "inst_0x15" 728 (.ref 442), entOf P "inst_0x16" 735 (.ref 449), entOf P "inst_0x18" 742 (.ref 456), entOf P "inst_0x19" 749 (.ref 463), entOf P "inst_0x1d" 756 (.ref 470), entOf P "inst_0x1e" 763 (.ref 477), entOf P "inst_0x20" 770 (.ref 484), entOf P "inst_0x21" 777 (.ref 491), entOf P "inst_0x24" 784 (.ref 498), entOf P "inst_0x25" 791 (.ref 505), entOf P "inst_0x26" 798 (.ref 512), entOf P "inst_0x28" 805 (.ref 519), entOf P "inst_0x29" 812 (.ref 526), entOf P "inst_0x2a" 819 (.ref 533), entOf P "inst_0x2c" 826 (.ref 540), entOf P "inst_0x2d" 833 (.ref 547), entOf P "inst_0x2e" 840 (.ref 554), entOf P "inst_0x30" 847 (.ref 561), entOf P "inst_0x31" 854 (.ref 568), entOf P "inst_0x35" 861 (.ref 575), entOf P "inst_0x36" 868 (.ref 582), entOf P "inst_0x38" 875 (.ref 589), entOf P "inst_0x39" 882 (.ref 596), entOf P "inst_0x3d" 889 (.ref 603), entOf P "inst_0x3e" 896 (.ref 610), entOf P "inst_0x40" 903 (.ref 617), entOf P "inst_0x41" 910 (.ref 624), entOf P "inst_0x45" 917 (.ref 631), entOf P "inst_0x46" 924 (.ref 638), entOf P "inst_0x48" 931 (.ref 645), entOf P "inst_0x49" 938 (.ref 652), entOf P "inst_0x4a" 945 (.ref 659), entOf P "inst_0x4c" 952 (.ref 666), entOf P "inst_0x4d" 959 (.ref 673), entOf P "inst_0x4e" 966 (.ref 680), entOf P "inst_0x50" 973 (.ref 687), entOf P "inst_0x51" 980 (.ref 694), entOf P "inst_0x55" 987 (.ref 701), entOf P "inst_0x56" 994 (.ref 708), entOf P "inst_0x58" 1001 (.ref 715), entOf P "inst_0x59" 1008 (.ref 722), entOf P "inst_0x5d" 1015 (.ref 729), entOf P "inst_0x5e" 1022 (.ref 736), entOf P "inst_0x60" 1029 (.ref 743), entOf P "inst_0x61" 1036 (.ref 750), entOf P "inst_0x65" 1043 (.ref 757), entOf P "inst_0x66" 1050 (.ref 764), entOf P "inst_0x68" 1057 (.ref 771), entOf P "inst_0x69" 1064 (.ref 778), entOf P "inst_0x6a" 1071 (.ref 785), entOf P "inst_0x6c" 1079 (.ref 792), entOf P "inst_0x6d" 1086 (.ref 799), entOf P "inst_0x6e" 1093 (.ref 806), entOf P "inst_0x70" 1100 (.ref 813), entOf P "inst_0x71" 1107 (.ref 820), entOf P "inst_0x75" 1114 (.ref 827), entOf P "inst_0x76" 1121 (.ref 834), entOf P "inst_0x78" 1128 (.ref 841), entOf P "inst_0x79" 1135 (.ref 848), entOf P "inst_0x7d" 1142 (.ref 855), entOf P "inst_0x7e" 1149 (.ref 862), entOf P "inst_0x81" 1156 (.ref 869), entOf P "inst_0x84" 1163 (.ref 876), entOf P "inst_0x85" 1170 (.ref 883), entOf P "inst_0x86" 1177 (.ref 890), entOf P "inst_0x88" 1184 (.ref 897), entOf P "inst_0x8a" 1191 (.ref 904), entOf P "inst_0x8c" 1198 (.ref 911), entOf P "inst_0x8d" 1205 (.ref 918), entOf P "inst_0x8e" 1212 (.ref 925), entOf P "inst_0x90" 1219 (.ref 932), entOf P "inst_0x91" 1226 (.ref 939), entOf P "inst_0x94" 1233 (.ref 946), entOf P "inst_0x95" 1240 (.ref 953), entOf P "inst_0x96" 1247 (.ref 960), entOf P "inst_0x98" 1254 (.ref 967), entOf P "inst_0x99" 1261 (.ref 974), entOf P "inst_0x9a" 1268 (.ref 981), entOf P "inst_0x9d" 1275 (.ref 988), entOf P "inst_0xa0" 1282 (.ref 995), entOf P "inst_0xa1" 1289 (.ref 1002), entOf P "inst_0xa2" 1296 (.ref 1009), entOf P "inst_0xa4" 1303 (.ref 1016), entOf P "inst_0xa5" 1310 (.ref 1023), entOf P "inst_0xa6" 1317 (.ref 1030), entOf P "inst_0xa8" 1324 (.ref 1037), entOf P "inst_0xa9" 1331 (.ref 1044), entOf P "inst_0xaa" 1338 (.ref 1051), entOf P "inst_0xac" 1345 (.ref 1058), entOf P "inst_0xad" 1352 (.ref 1065), entOf P "inst_0xae" 1359 (.ref 1072), entOf P "inst_0xb0" 1366 (.ref 1079), entOf P "inst_0xb1" 1373 (.ref 1086), entOf P "inst_0xb4" 1380 (.ref 1093), entOf P "inst_0xb5" 1387 (.ref 1100), entOf P "inst_0xb6" 1394 (.ref 1107), entOf P "inst_0xb8" 1401 (.ref 1114), entOf P "inst_0xb9" 1408 (.ref 1121), entOf P "inst_0xba" 1415 (.ref 1128), entOf P "inst_0xbc" 1422 (.ref 1135), entOf P "inst_0xbd" 1429 (.ref 1142), entOf P "inst_0xbe" 1436 (.ref 1149), entOf P "inst_0xc0" 1443 (.ref 1156), entOf P "inst_0xc1" 1450 (.ref 1163), entOf P "inst_0xc4" 1457 (.ref 1170), entOf P "inst_0xc5" 1464 (.ref 1177), entOf P "inst_0xc6" 1471 (.ref 1184), entOf P "inst_0xc8" 1478 (.ref 1191), entOf P "inst_0xc9" 1485 (.ref 1198), entOf P "inst_0xca" 1492 (.ref 1205), entOf P "inst_0xcc" 1499 (.ref 1212), entOf P "inst_0xcd" 1506 (.ref 1219), entOf P "inst_0xce" 1513 (.ref 1226), entOf P "inst_0xd0" 1520 (.ref 1233), entOf P "inst_0xd1" 1527 (.ref 1240), entOf P "inst_0xd5" 1534 (.ref 1247), entOf P "inst_0xd6" 1541 (.ref 1254), entOf P "inst_0xd8" 1548 (.ref 1261), entOf P "inst_0xd9" 1555 (.ref 1268), entOf P "inst_0xdd" 1562 (.ref 1275), entOf P "inst_0xde" 1569 (.ref 1282), entOf P "inst_0xe0" 1576 (.ref 1289), entOf P "inst_0xe1" 1583 (.ref 1296), entOf P "inst_0xe4" 1590 (.ref 1303), entOf P "inst_0xe5" 1597 (.ref 1310), entOf P "inst_0xe6" 1604 (.ref 1317), entOf P "inst_0xe8" 1611 (.ref 1324), entOf P "inst_0xe9" 1618 (.ref 1331), entOf P "inst_0xea" 1625 (.ref 1338), entOf P "inst_0xec" 1632 (.ref 1345), entOf P "inst_0xed" 1639 (.ref 1352), entOf P "inst_0xee" 1646 (.ref 1359), entOf P "inst_0xf0" 1653 (.ref 1366), entOf P "inst_0xf1" 1660 (.ref 1373), entOf P "inst_0xf5" 1667 (.ref 1380), entOf P "inst_0xf6" 1674 (.ref 1387), entOf P "inst_0xf8" 1681 (.ref 1394), entOf P "inst_0xf9" 1688 (.ref 1401), entOf P "inst_0xfd" 1695 (.ref 1408), entOf P "inst_0xfe" 1702 (.ref 1415), entOf P "instruct" 1703 (.ref 1416), entOf P "cycletime" 1960 (.ref 1417), entOf P "extracycles" 2217 (.ref 1418), entOf P "__static_attributes__" 2234 (.ref 1419), entOf P "__dict__" 2236 (.ref 1422), entOf P "__weakref__" 2238 (.ref 1423), entOf P "__doc__" 2239 (.none)]
noncomputable def clsO : Obj := { cls := .type "type", data := .cls { name := "MPU", bases := [.type "object"], mro := [.ref 1421, .type "object"], ns := 1420, qualname := "MPU", hasDict := true, slotNames := [], subclasses := [], abstract := false, collection := none, hasDel := false }, slots := #[none, none, some (.str "MPU" 189), some (.str "MPU" 197), some (.builtin "object.__new__"), some (.bool true)] }
noncomputable def stAt (i : Nat) : Stmt := (bodyL[i]?).getD (.Pass ⟨0, 0, 0, 0⟩)
noncomputable def dfltA : Addr := 22
noncomputable def lstOf : Stmt → List PySem.Expr
  | .Assign _ (.List elts _) _ => elts
  | _ => []
noncomputable def KK (P : Params) : Frag := [(3, { cls := .type "dict", data := .dict (mainEs P).toArray 11 }), (1420, { cls := .type "dict", data := .dict (nsEs P).toArray 4 }), (1421, clsO)] ++ [(22, tupO [.none, .int 0 231])] ++ defPair cfg (stAt 15) 23 232 (.ref 22) ++ defPair cfg (stAt 16) 30 241 .none ++ defPair cfg (stAt 17) 37 249 .none ++ defPair cfg (stAt 18) 44 256 .none ++ defPair cfg (stAt 19) 51 263 .none ++ defPair cfg (stAt 20) 58 270 .none ++ defPair cfg (stAt 21) 65 278 .none ++ defPair cfg (stAt 23) 79 296 .none ++ defPair cfg (stAt 24) 86 303 .none ++ defPair cfg (stAt 25) 93 310 .none ++ defPair cfg (stAt 30) 128 347 .none ++ defPair cfg (stAt 31) 135 354 .none ++ defPair cfg (stAt 33) 149 372 .none ++ defPair cfg (stAt 34) 156 380 .none ++ defPair cfg (stAt 35) 163 388 .none ++ defPair cfg (stAt 36) 170 395 .none ++ defPair cfg (stAt 37) 177 403 .none ++ defPair cfg (stAt 38) 184 411 .none ++ defPair cfg (stAt 42) 212 447 .none ++ defPair cfg (stAt 43) 219 455 .none ++ defPair cfg (stAt 46) 240 479 .none ++ defPair cfg (stAt 52) 282 542 .none ++ defPair cfg (stAt 55) 303 566 .none ++ defPair cfg (stAt 58) 324 603 .none ++ defPair cfg (stAt 59) 331 613 .none ++ defPair cfg (stAt 61) 345 629 .none ++ defPair cfg (stAt 86) 520 806 .none ++ defPair cfg (stAt 99) 611 897 .none ++ defPair cfg (stAt 103) 639 925 .none ++ defPair cfg (stAt 106) 660 946 .none ++ defPair cfg (stAt 121) 765 1051 .none ++ defPair cfg (stAt 137) 877 1164 .none ++ defPair cfg (stAt 140) 898 1185 .none ++ defPair cfg (stAt 149) 961 1248 .none ++ defPair cfg (stAt 152) 982 1269 .none ++ defPair cfg (stAt 157) 1017 1304 .none ++ defPair cfg (stAt 158) 1024 1311 .none ++ defPair cfg (stAt 159) 1031 1318 .none ++ defPair cfg (stAt 161) 1045 1332 .none ++ defPair cfg (stAt 163) 1059 1346 .none ++ defPair cfg (stAt 165) 1073 1360 .none ++ defPair cfg (stAt 174) 1136 1423 .none ++ defPair cfg (stAt 182) 1192 1479 .none ++ defPair cfg (stAt 183) 1199 1486 .none ++ defPair cfg (stAt 187) 1227 1514 .none ++ defPair cfg (stAt 193) 1269 1556 .none ++ defPair cfg (stAt 195) 1283 1570 .none ++ defPair cfg (stAt 197) 1297 1584 .none ++ defPair cfg (stAt 199) 1311 1598 .none ++ defPair cfg (stAt 200) 1318 1605 .none ++ defPair cfg (stAt 206) 1360 1647 .none ++ [(1416, { cls := .type "list", data := .seq (cfg.instr.map Value.ref).toArray })] ++ [(1417, { cls := .type "list", data := .seq (intsAt 1704 (lstOf (stAt 215))).toArray })] ++ [(1418, { cls := .type "list", data := .seq (intsAt 1961 (lstOf (stAt 216))).toArray })]
noncomputable def clA : Addr := 1421
noncomputable def fnAddrs : List Nat := [29, 36, 43, 50, 57, 64, 71, 85, 92, 99, 134, 141, 155, 162, 169, 176, 183, 190, 218, 225, 246, 288, 309, 330, 337, 351, 526, 617, 645, 666, 771, 883, 904, 967, 988, 1023, 1030, 1037, 1051, 1065, 1079, 1142, 1198, 1205, 1233, 1275, 1289, 1303, 1317, 1324, 1366, 78, 106, 113, 120, 127, 148, 197, 204, 211, 232, 239, 253, 260, 267, 274, 281, 295, 302, 316, 323, 344, 358, 365, 372, 379, 386, 393, 400, 407, 414, 421, 428, 435, 442, 449, 456, 463, 470, 477, 484, 491, 498, 505, 512, 519, 533, 540, 547, 554, 561, 568, 575, 582, 589, 596, 603, 610, 624, 631, 638, 652, 659, 673, 680, 687, 694, 701, 708, 715, 722, 729, 736, 743, 750, 757, 764, 778, 785, 792, 799, 806, 813, 820, 827, 834, 841, 848, 855, 862, 869, 876, 890, 897, 911, 918, 925, 932, 939, 946, 953, 960, 974, 981, 995, 1002, 1009, 1016, 1044, 1058, 1072, 1086, 1093, 1100, 1107, 1114, 1121, 1128, 1135, 1149, 1156, 1163, 1170, 1177, 1184, 1191, 1212, 1219, 1226, 1240, 1247, 1254, 1261, 1268, 1282, 1296, 1310, 1331, 1338, 1345, 1352, 1359, 1373, 1380, 1387, 1394, 1401, 1408, 1415]
noncomputable def fnA (m : Nat) : Addr := fnAddrs.getD m 0
noncomputable def tabA (k : Nat) : Addr := ([1417, 1418] : List Nat).getD k 0
noncomputable def insA : Addr := 1416
noncomputable def fA (k : Nat) : Addr := ([] : List Nat).getD k 0
noncomputable def lawIx : Nat := 3

theorem k_base (P : Params) : baseB (KK P) clA = true := by kernel_rfl
theorem k_cst (P : Params) : cls.csts.all (cstB (KK P) clA) = true := by kernel_rfl
theorem k_tab0 (P : Params) : tabB (KK P) clA (tabA 0) (("cycletime" : Str), tab_cycletime) = true := by kernel_rfl
theorem k_tab1 (P : Params) : tabB (KK P) clA (tabA 1) (("extracycles" : Str), tab_extracycles) = true := by kernel_rfl
theorem k_ins (P : Params) : insB (KK P) clA cls fnA insA = true := by kernel_rfl
theorem k_meths (P : Params) : methsB (KK P) clA cls fnA iInit 0 theP = true := by kernel_rfl
theorem k_makes (P : Params) : makesIn (KK P) clA = true := by kernel_rfl
theorem k_keep (P : Params) : keepIn (KK P) (.ref clA) = true := by kernel_rfl
theorem k_init (P : Params) : findIn (KK P) (.ref clA) "__init__" = some (some (.ref (fnA iInit))) := by kernel_rfl
theorem k_initT (P : Params) : typeIn (KK P) (.ref (fnA iInit)) = some (.type "function") := by kernel_rfl
noncomputable def fdOf (o : Option Obj) : FuncData := match o with
  | some ⟨_, _, .func fd, _⟩ => fd
  | _ => default
noncomputable def fdInit : FuncData := fdOf ((defPair cfg (stAt 15) 23 232 (.ref 22)).lookup (fnA iInit))
theorem k_fdI (P : Params) : (KK P).lookup (fnA iInit) = some ⟨.type "function", none, .func fdInit, #[]⟩ := by kernel_rfl
theorem k_fdA : initArgs fdInit dfltA = true := by kernel_rfl
theorem k_dfl (P : Params) : (KK P).lookup dfltA = some (tupO [.none, .int 0 231]) := by kernel_rfl
theorem k_looks (P : Params) : KLooks (KK P) clA cls fnA tabA insA := by
  refine ⟨k_base P, k_cst P, fun k q e => ?_, k_ins P⟩
  match k, e with
  | 0, e => cases e; exact k_tab0 P
  | 1, e => cases e; exact k_tab1 P
  | n + 2, e => cases e
theorem md_init_at : cls.P[iInit]? = some md_init := rfl
theorem md_init_vars : md_init.vars.take md_init.np = [("self" : Str), ("memory" : Str), ("pc" : Str)] := rfl
noncomputable def XX (w : World) (h : Heap) (mb : Str → Option Value) : LX :=
  { x := { prog := pw, w := w, c := cls, h₀ := h, K := KK w.params, C := clA, I := 0, D := 0, L := 0, fnA := fnA, tabA := tabA, insA := insA }, F := theF, im := iInit, fuel := theFuel, mg := fun n => nsFind (mainEs w.params).toArray n, mb := mb, fA := fA }
theorem meth_all (w : World) (h : Heap) (mb : Str → Option Value) (I D L : Addr) (m : Nat) (md : MethD) (e : cls.P[m]? = some md) : MethOk ((XX w h mb).at I D L) m md := by
  have hb := methsB_of (k_meths w.params) m md e
  rw [Nat.zero_add] at hb
  refine methB_of (x := (XX w h mb).at I D L) hb fun fd hf => ?_
  cases q : m != iInit with
  | true => exact .inl rfl
  | false =>
    right
    obtain rfl : m = iInit := by simpa using q
    have hf' : (KK w.params).lookup (fnA iInit) = some ⟨.type "function", none, .func fd, #[]⟩ := hf
    rw [k_fdI] at hf'
    cases hf'
    rw [md_init_at] at e
    cases e
    intro s vals X hl
    obtain ⟨a, b, c, rfl⟩ : ∃ a b c, vals = [a, b, c] := by
      match vals, hl with
      | [a, b, c], _ => exact ⟨a, b, c, rfl⟩
    rw [md_init_vars]
    exact (bind_init k_fdA (k_dfl w.params) X a b c).1
theorem k_mainKeys (P : Params) : strKeysB (mainEs P) = true := by kernel_rfl
theorem k_main (P : Params) : ∃ n, (KK P).lookup mainGlobals = some { cls := .type "dict", data := .dict (mainEs P).toArray n } := ⟨11, by kernel_rfl⟩
theorem k_mpu (P : Params) : nsFind (mainEs P).toArray "MPU" = some (.ref clA) := by kernel_rfl
theorem k_free (P : Params) : (bltT.map fun q => nsFind (mainEs P).toArray q.1) = bltT.map fun _ => none := by kernel_rfl
theorem k_blt : (bltT.map fun q => bootBuiltins q.1) = bltT.map fun q => some q.2 := by kernel_rfl
theorem k_bltN : (bltT.all fun q => q.1 != ("__name__" : Str)) = true := by kernel_rfl
theorem lok (w : World) {h : Heap} {mb : Str → Option Value} (X : (KK w.params).In h) (lim : h.NoLimit) (b : h.Ns builtinsNs mb) (hb : ∀ x : Str, x ≠ "__name__" → mb x = bootBuiltins x) : LOk (XX w h mb) := by
  refine ⟨fun I D L nD nL DL => ok_of (x := (XX w h mb).at I D L) (k_looks w.params) (fun m md e => meth_all w h mb I D L m md e) X lim nD nL DL, small_of (x := (XX w h mb).x) (k_looks w.params), ?_, b, fun n v hm => ?_, k_mpu w.params, k_keep w.params, k_makes w.params, k_init w.params, k_initT w.params, fun s fd md self m p e hf Xs => ?_⟩
  · obtain ⟨n, e⟩ := k_main w.params
    exact ns_of_obj (X _ _ e) (k_mainKeys w.params)
  · refine ⟨(List.map_inj_left.mp (k_free w.params)) (n, v) hm, ?_⟩
    have h1 := (List.map_inj_left.mp k_blt) (n, v) hm
    have h2 := List.all_eq_true.mp k_bltN (n, v) hm
    show mb n = some v
    rw [hb n (by simpa using h2)]
    exact h1
  · have hf' : (KK w.params).lookup (fnA iInit) = some ⟨.type "function", none, .func fd, #[]⟩ := hf
    rw [k_fdI] at hf'
    cases hf'
    have e' : cls.P[iInit]? = some md := e
    rw [md_init_at] at e'
    cases e'
    rw [md_init_vars]
    exact (bind_init k_fdA (k_dfl w.params) Xs self m p).2
theorem fns (w : World) {h : Heap} {mb : Str → Option Value} (X : (KK w.params).In h) (lim : h.NoLimit) : FnsOk (XX w h mb) := by
  refine ⟨fun f fd e => ?_, lim⟩
  have e : theF[f]? = some fd := e
  match f, e with
  | n + 0, e => cases e
end Mine

end
section
open PySem PySem.W PyProof.Rows
set_option maxRecDepth 100000
set_option maxHeartbeats 0
namespace Mine
section
open PySem.TablesWhole
theorem wSs_app {top : Scope} {cx : TablesWhole.Ctx} {sc : Scope} : ∀ l r : List Stmt, wSs holds top cx sc (l ++ r) = (wSs holds top cx sc l && wSs holds top cx sc r)
  | [], r => rfl
  | s :: l, r => by
    show (wS holds top cx sc s && wSs holds top cx sc (l ++ r)) = ((wS holds top cx sc s && wSs holds top cx sc l) && _)
    rw [wSs_app l r, Bool.and_assoc]
theorem wSs_cut {top : Scope} {cx : TablesWhole.Ctx} {sc : Scope} (k : Nat) {l : List Stmt} (h1 : wSs holds top cx sc (l.take k) = true) (h2 : wSs holds top cx sc (l.drop k) = true) : wSs holds top cx sc l = true := by
  have := wSs_app (top := top) (cx := cx) (sc := sc) (l.take k) (l.drop k)
  rw [List.take_append_drop] at this
  rw [this, h1, h2]; rfl
theorem wSs_bit {top : Scope} {cx : TablesWhole.Ctx} {sc : Scope} (i k : Nat) {l : List Stmt} (h1 : wSs holds top cx sc ((l.drop i).take k) = true) (h2 : wSs holds top cx sc (l.drop (i + k)) = true) : wSs holds top cx sc (l.drop i) = true :=
  wSs_cut k h1 (by rw [List.drop_drop]; exact h2)
noncomputable def isTwice (w : String) : Bool := w == "no name twice in a table, but a class's lawful pair"
noncomputable def hx : Alg Bool := { holds with check := fun w _ _ ok => cond (isTwice w) true ok }
theorem ef_eq {ch : List Scope} {cls : Option Scope} {gl : List Str} {parent own : Scope} : holds.enterFrom ch cls gl parent own = (noTwice own && hx.enterFrom ch cls gl parent own) := by kernel_rfl
noncomputable def nameNo (s : Str) : Nat := s.cps.toList.foldl (fun a c => a * 2097152 + c) 0
noncomputable def allApart : List Nat → Bool
  | [] => true
  | a :: l => (l.all fun b => !Nat.beq a b) && allApart l
theorem filter_one {n : Str} {k : NameKind} : ∀ l : List (Str × NameKind), allApart (l.map fun p => nameNo p.1) = true → (n, k) ∈ l → l.filter (fun p => p.1 == n) = [(n, k)]
  | [], _, h => nomatch h
  | a :: l, h, hm => by
    obtain ⟨h1, h2⟩ := Bool.and_eq_true_iff.mp (show ((l.map fun p => nameNo p.1).all (fun b => !Nat.beq (nameNo a.1) b) && allApart (l.map fun p => nameNo p.1)) = true from h)
    have h1 : ∀ p ∈ l, ¬ nameNo a.1 = nameNo p.1 := fun p hp e => by
      have := List.all_eq_true.mp h1 _ (List.mem_map_of_mem hp)
      rw [← e, Nat.beq_refl] at this; cases this
    cases hm with
    | head =>
      rw [List.filter_cons_of_pos (by exact beq_self_eq_true n), List.filter_eq_nil_iff.mpr fun p hp e => h1 p hp (by rw [beq_iff_eq.mp e])]
    | tail _ hm =>
      rw [List.filter_cons_of_neg fun e => h1 _ hm (by rw [beq_iff_eq.mp e]), filter_one l h2 hm]
theorem noTwice_of {sc : Scope} (h : allApart (sc.names.map fun p => nameNo p.1) = true) : noTwice sc = true := by
  unfold noTwice
  refine List.all_eq_true.mpr fun ⟨n, k⟩ hp => ?_
  dsimp only
  rw [show sc.names.filter (fun p => p.1 == n) = [(n, k)] from filter_one _ h hp]
noncomputable def clsHd (cx : TablesWhole.Ctx) (sc : Scope) : Stmt → Bool
  | .ClassDef _ bases keywords body decorators [] own _ bind _ pos => wEs holds cx sc none decorators && (holds.bind cx sc bind (some pos) && (hx.enterFrom cx.encl none (declSs true body) sc own && (wEs holds cx sc none bases && wKs holds cx sc none keywords)))
  | _ => false
noncomputable def clsCx (cx : TablesWhole.Ctx) : Stmt → TablesWhole.Ctx
  | .ClassDef _ _ _ body _ tparams own tscope _ _ _ => ⟨own, declSs false body, declSs true body, under tparams tscope cx.encl, none⟩
  | _ => cx
noncomputable def clsOwn : Stmt → Scope
  | .ClassDef _ _ _ _ _ _ own _ _ _ _ => own
  | _ => default
noncomputable def clsBd : Stmt → List Stmt
  | .ClassDef _ _ _ body _ _ _ _ _ _ _ => body
  | _ => []
theorem wS_cls {top : Scope} {cx : TablesWhole.Ctx} {sc : Scope} {s : Stmt} (h0 : allApart ((clsOwn s).names.map fun p => nameNo p.1) = true) (h1 : clsHd cx sc s = true) (h2 : wSs holds top (clsCx cx s) (clsOwn s) (clsBd s) = true) : wS holds top cx sc s = true := by
  replace h0 := noTwice_of h0
  cases s <;> try exact absurd h1 Bool.false_ne_true
  rename_i bases keywords body decorators tparams own tscope bind _ pos
  cases tparams with
  | cons _ _ => exact absurd h1 Bool.false_ne_true
  | nil =>
    obtain ⟨a, h1⟩ := Bool.and_eq_true_iff.mp h1
    obtain ⟨b, h1⟩ := Bool.and_eq_true_iff.mp h1
    obtain ⟨c, h1⟩ := Bool.and_eq_true_iff.mp h1
    obtain ⟨d, e⟩ := Bool.and_eq_true_iff.mp h1
    have ef : holds.enterFrom cx.encl none (declSs true body) sc own = true := ef_eq.trans (Bool.and_eq_true_iff.mpr ⟨h0, c⟩)
    show ((wEs holds cx sc none decorators && (holds.bind cx sc bind (some pos) && ((holds.enterFrom cx.encl none (declSs true body) sc own && (wEs holds cx sc none bases && (wKs holds cx sc none keywords && true))) && true))) && wSs holds top _ own body) = true
    rw [a, b, ef, d, e]
    exact h2
noncomputable def topCx (p : Program) : TablesWhole.Ctx := ⟨p.main.scope, [], wSs gather p.main.scope ⟨p.main.scope, [], [], [], none⟩ p.main.scope p.main.body, [], none⟩
noncomputable def nth (p : Program) (k : Nat) : Stmt := (p.main.body.drop k).headD (.Pass ⟨0, 0, 0, 0⟩)
theorem tables_of {p : Program} {k : Nat} (hm : p.modules = []) (hp : p.parses = []) (hh : p.harvested = []) (hk : Nat.blt k p.main.body.length = true) (h1 : noTwice p.main.scope = true) (h2 : wSs holds p.main.scope (topCx p) p.main.scope (p.main.body.take k) = true)
    (h0 : allApart ((clsOwn (nth p k)).names.map fun p => nameNo p.1) = true) (h3 : clsHd (topCx p) p.main.scope (nth p k) = true) (h4 : wSs holds p.main.scope (clsCx (topCx p) (nth p k)) (clsOwn (nth p k)) (clsBd (nth p k)) = true) (h5 : wSs holds p.main.scope (topCx p) p.main.scope (p.main.body.drop (k + 1)) = true) : p.tablesWhole = true := by
  have hk := Nat.le_of_ble_eq_true hk
  have e : p.main.body.drop k = nth p k :: p.main.body.drop (k + 1) := by
    unfold nth
    rw [List.drop_eq_getElem_cons hk]; rfl
  have h6 : wSs holds p.main.scope (topCx p) p.main.scope p.main.body = true := wSs_cut k h2 (by
    rw [e]
    show (wS holds p.main.scope (topCx p) p.main.scope (nth p k) && _) = true
    rw [wS_cls h0 h3 h4, h5]; rfl)
  have h7 : wModule holds p.main = true := by
    show (true && (noTwice p.main.scope && (wSs holds p.main.scope (topCx p) p.main.scope p.main.body && true))) = true
    rw [h1, h6]; rfl
  show (wModule holds p.main && ((p.modules.map _).foldr _ _ && ((p.parses.map _).foldr _ _ && ((p.harvested.map _).foldr _ _ && true)))) = true
  rw [h7, hm, hp, hh]; rfl
end
end Mine

end
section
open PySem PySem.W PyProof.Rows
set_option maxRecDepth 100000
set_option maxHeartbeats 0
namespace Mine
noncomputable def Q : Program := { pw with main := { pw.main with body := pw.main.body.drop 3 } }
noncomputable def loose : List PySem.Str := [PySem.Str.ofString "MPU"]
theorem lk_size (w : World) : ((boot_heap w.params).isNs mainGlobals && (Array.mk ([] : List GenState)).size == 0, (boot_heap w.params).objs.size, (boot_heap w.params).nsMap mainGlobals "__annotations__") = (true, 11, some (.ref 6)) := by kernel_rfl
noncomputable abbrev rwN : OpenLaw := PySem.Challenge.rw_lr0005_01
noncomputable def Xt : Shared → Bool := fun s => xlAt Q [] s && recOk (RowW.records rwN.row.toRowW) s
theorem lk_all (w : World) (os : OsState) : ((staticsOk (importedModules pw.main.body) (boot_heap w.params) (Ff w os).abs.heap && namesBound pw (Ff w os).abs.heap && gensDone (Ff w os).abs && laidKept (boot_heap w.params) (Ff w os).abs.heap),
        openSeen Q loose (importedModules pw.main.body) Xt true (Ff w os).abs) = (true, openGood Q loose) := by kernel_rfl
noncomputable def paramsO : Params := { strHash := fun _ => 0, shareClass := fun _ => 0, mergeTok := id, idOf := fun _ => 0, idOfShared := fun _ _ => 0, followText := fun _ => true, idOfImm := fun _ => 0 }
noncomputable def kAs : List Addr := (KK paramsO).map (·.1)
theorem kAs_eq (P : Params) : kAs = (KK P).map (·.1) := by kernel_rfl
theorem k_tree (w : World) (os : OsState) : (KK w.params).map (fun p => (Nat.blt p.1 (Ff w os).n, ((Ff w os).tree.get p.1).map alive)) = (KK w.params).map (fun p => (true, some (some p.2))) := by kernel_rfl
noncomputable def HK : Hook := kHook KK kAs kAs_eq
theorem left : LeftO pw Q loose Xt HK.obs HK.val 16054 true :=
  left_of (H := HK) (F := Ff) (boot_open (by kernel_rfl) (by kernel_rfl) (fun s => by kernel_rfl)) lk_size top_run lk_all fun w os => seen_of kAs_eq (k_tree w os)
noncomputable def dLaw : DefRec := match (pw.main.body.drop 3 : List Stmt) with
  | .FunctionDef n a b _ _ _ sc _ _ pos :: _ => ⟨n, a, b, sc, pos⟩
  | _ => ⟨"law", default, [], default, ⟨0, 0, 0, 0⟩⟩
theorem law_B (pm cd doc kV : Value) : fnB cls theF fn_law { PySem.Calls.docDef dLaw.name dLaw.params dLaw.body dLaw.scope pm cd doc with defaults := .none, kwdefaults := kV } = true := by kernel_rfl
theorem law_def : defOf Q rwN.name = some (dLaw, []) := by kernel_rfl
theorem law_the : pw.theDef rwN.name = some (dLaw.params, dLaw.body, dLaw.scope) := by kernel_rfl
theorem law_kw : kwWritten? dLaw.params.kwonlyargs dLaw.params.kw_defaults = some [] := by kernel_rfl
theorem law_dfl : dLaw.params.defaults = [] := by kernel_rfl
theorem law_ok : (chainsOk Q && opensWell pw && (frees rwN.row.toRowW && rwN.row.within.isEmpty)) = true := by kernel_rfl
noncomputable def tCx : TablesWhole.Ctx := clsCx (topCx pw) (nth pw 1)
noncomputable def tOwn : Scope := clsOwn (nth pw 1)
noncomputable def tBd : List Stmt := clsBd (nth pw 1)
noncomputable abbrev tW (l : List Stmt) : Bool := TablesWhole.wSs TablesWhole.holds pw.main.scope tCx tOwn l
theorem tb_0 : tW ((tBd.drop 0).take 40) = true := by kernel_rfl
theorem tb_1 : tW ((tBd.drop 40).take 40) = true := by kernel_rfl
theorem tb_2 : tW ((tBd.drop 80).take 40) = true := by kernel_rfl
theorem tb_3 : tW ((tBd.drop 120).take 40) = true := by kernel_rfl
theorem tb_4 : tW ((tBd.drop 160).take 40) = true := by kernel_rfl
theorem tb_5 : tW ((tBd.drop 200).take 40) = true := by kernel_rfl
theorem tb_6 : tW (tBd.drop 240) = true := by kernel_rfl
theorem tb_all : tW tBd = true := wSs_bit 0 40 tb_0 (wSs_bit 40 40 tb_1 (wSs_bit 80 40 tb_2 (wSs_bit 120 40 tb_3 (wSs_bit 160 40 tb_4 (wSs_bit 200 40 tb_5 tb_6)))))
theorem law_tables : pw.tablesWhole = true := tables_of (k := 1) (by kernel_rfl) (by kernel_rfl) (by kernel_rfl) (by kernel_rfl) (by kernel_rfl) (by kernel_rfl) (by kernel_rfl) (by kernel_rfl) tb_all (by kernel_rfl)
theorem law_bare : pw.bare := ⟨by kernel_rfl, by kernel_rfl, by kernel_rfl, by kernel_rfl, by kernel_rfl, law_tables⟩
theorem law_can : rwN.row.toRowW.promised := ⟨[.list []], by decide +kernel, by decide +kernel⟩
theorem law_prog : rwN.prog = pw := by kernel_rfl
theorem law_Xt (s : Shared) : Xt s = (xlAt Q [] s && recOk (RowW.records rwN.row.toRowW) s) := by kernel_rfl
theorem law_run (D : ∀ ns : List Int, ns.length ≤ 63 → ∃ ρ', exLs cls iInit theFuel (callL cls iInit theFuel theF 3) fn_law.body (some (.ints ns) :: List.replicate (fn_law.vars.length - 1) none) = some (.ret (.bool true), ρ'))
    (w : World) (s : Shared) (mb : Str → Option Value) (Y : HK.says w s.heap) (lim : s.heap.NoLimit) (hb : s.heap.Ns builtinsNs mb) (hbb : ∀ x : Str, x ≠ "__name__" → mb x = bootBuiltins x) (a : Addr) (o : Obj) (pm cd doc kV : Value) (ho : s.heap.get? a = some o)
    (hd : o.data = .func { PySem.Calls.docDef dLaw.name dLaw.params dLaw.body dLaw.scope pm cd doc with defaults := .none, kwdefaults := kV }) (hcd : s.heap.CodeRec cd dLaw.name) (ns : List Int) (b : Addr) (its : Array Value) (hl : ns.length ≤ 63) (li : s.heap.IsList b its) (ia : IntsAre its.toList ns)
    (R : Result → Shared → Prop) (post : ∀ s', Kg s s' → R (.ok (.ret (.bool true))) s') : codeAny (model pw w) callerA (.call (.ref a) ⟨[.ref b], []⟩) R s := by
  have X : (KK w.params).In s.heap := kIn_of Y
  have OK := lok w X lim hb hbb
  have FO := fns w (mb := mb) X lim
  exact law_core (X := XX w s.heap mb) OK FO (fnB_of (X := XX w s.heap mb) (law_B pm cd doc kV)) rfl rfl ho hd hcd hl li ia (j := 3) (by decide) (D ns hl) post
end Mine

end
section
open PySem PySem.W PyProof.Rows
set_option maxRecDepth 100000
set_option maxHeartbeats 0
namespace Mine
noncomputable abbrev rwS : OpenLaw := PySem.Challenge.rw_lr0005_01
theorem said_1 : namesResolve pw = true := by kernel_rfl
theorem said_2 : (namesMeet pw pw.main.body fun _ n => attrL n) = true := by kernel_rfl
theorem said_3 : noRoadLSs { strict := !(importedModules pw.main.body).all cThrough.contains, foot := none, bare := (["vars", "dir", "locals"] : List Str).filter (readsOut pw pw.main.body) } pw.main.body = true := by kernel_rfl
theorem said_looks : looksOpen pw = true := by
  unfold looksOpen
  rw [said_1, said_2, said_3]
  kernel_rfl
theorem said_part : rwS.row.partSaid = true := by
  unfold OpenRow.partSaid
  rw [show looksOpen rwS.row.prog = true from said_looks]
  kernel_rfl
theorem said_row : rwS.row.wellSaid = true := by
  unfold OpenRow.wellSaid
  rw [said_part]
  kernel_rfl
theorem said_law : rwS.wellSaid = true := by
  unfold OpenLaw.wellSaid
  rw [said_row]
  kernel_rfl
end Mine

end
section
open PySem PySem.W PyProof.Rows
set_option maxRecDepth 100000
set_option maxHeartbeats 0
set_option linter.unusedSimpArgs false
set_option linter.unusedVariables false
namespace Mine
noncomputable def mm (pc a x y sp p cyc e : Int) (ad s : V) (m : List Int) : M := ⟨.int pc, .int a, .int x, .int y, .int sp, .int p, .int cyc, .int e, ad, s, .int 255, .int 65535, .int 65280, .int 256, true, true, m⟩
theorem r_0xa6 {pc a x y sp p cyc : Int} {s : V} {m : List Int} {k : KM} : callK cls 11 36 [] (mm pc a x y sp p cyc 0 (.int 0) s m) k = (at? m pc).bind fun v1 => (at? m v1).bind fun v2 => cond (v2 == 0) (k .none (mm (pc + 1) a v2 y sp (bOr (bAnd p (bNot (bOr 2 128))) 2) cyc 0 (.int 0) s m)) (k .none (mm (pc + 1) a v2 y sp (bOr (bAnd p (bNot (bOr 2 128))) (bAnd v2 128)) cyc 0 (.int 0) s m)) := by kernel_rfl
theorem r_0xe4 {pc a x y sp p cyc : Int} {s : V} {m : List Int} {k : KM} : callK cls 11 47 [] (mm pc a x y sp p cyc 0 (.int 0) s m) k = (at? m pc).bind fun v1 => (at? m v1).bind fun v2 => cond (x == v2) (k .none (mm (pc + 1) a x y sp (bOr (bOr (bAnd p (bNot (bOr (bOr 1 2) 128))) (bOr 1 2)) (bAnd (x - v2) 128)) cyc 0 (.int 0) s m)) (cond (decide (x > v2)) (k .none (mm (pc + 1) a x y sp (bOr (bOr (bAnd p (bNot (bOr (bOr 1 2) 128))) 1) (bAnd (x - v2) 128)) cyc 0 (.int 0) s m)) (k .none (mm (pc + 1) a x y sp (bOr (bAnd p (bNot (bOr (bOr 1 2) 128))) (bAnd (x - v2) 128)) cyc 0 (.int 0) s m))) := by kernel_rfl
theorem r_0xf0 {pc a x y sp p cyc : Int} {s : V} {m : List Int} {k : KM} : callK cls 11 50 [] (mm pc a x y sp p cyc 0 (.int 2) s m) k = cond (bAnd p 2 != 0) ((at? m pc).bind fun v1 => cond (bAnd v1 128 != 0) (cond (bAnd (pc + 1) 65280 != bAnd (((pc + 1) - (bXor v1 255)) - 1) 65280) (k .none (mm (bAnd (((pc + 1) - (bXor v1 255)) - 1) 65535) a x y sp p cyc ((0 + 1) + 1) (.int 2) s m)) (k .none (mm (bAnd (((pc + 1) - (bXor v1 255)) - 1) 65535) a x y sp p cyc (0 + 1) (.int 2) s m))) (cond (bAnd (pc + 1) 65280 != bAnd ((pc + 1) + v1) 65280) (k .none (mm (bAnd ((pc + 1) + v1) 65535) a x y sp p cyc ((0 + 1) + 1) (.int 2) s m)) (k .none (mm (bAnd ((pc + 1) + v1) 65535) a x y sp p cyc (0 + 1) (.int 2) s m)))) (k .none (mm (pc + 1) a x y sp p cyc 0 (.int 2) s m)) := by kernel_rfl
theorem r_0xbd {pc a x y sp p cyc : Int} {s : V} {m : List Int} {k : KM} : callK cls 11 41 [] (mm pc a x y sp p cyc 0 (.int 1) s m) k = (at? m pc).bind fun v1 => (at? m (pc + 1)).bind fun v2 => (BOp.ev .shl v2 8).bind fun w3 => cond (bAnd (v1 + w3) 65280 != bAnd (bAnd ((v1 + w3) + x) 65535) 65280) ((at? m (bAnd ((v1 + w3) + x) 65535)).bind fun v4 => cond (v4 == 0) (k .none (mm (pc + 2) v4 x y sp (bOr (bAnd p (bNot (bOr 2 128))) 2) cyc (0 + 1) (.int 1) s m)) (k .none (mm (pc + 2) v4 x y sp (bOr (bAnd p (bNot (bOr 2 128))) (bAnd v4 128)) cyc (0 + 1) (.int 1) s m))) ((at? m (bAnd ((v1 + w3) + x) 65535)).bind fun v5 => cond (v5 == 0) (k .none (mm (pc + 2) v5 x y sp (bOr (bAnd p (bNot (bOr 2 128))) 2) cyc 0 (.int 1) s m)) (k .none (mm (pc + 2) v5 x y sp (bOr (bAnd p (bNot (bOr 2 128))) (bAnd v5 128)) cyc 0 (.int 1) s m))) := by kernel_rfl
theorem r_0xe8 {pc a x y sp p cyc : Int} {s : V} {m : List Int} {k : KM} : callK cls 11 49 [] (mm pc a x y sp p cyc 0 (.int 0) s m) k = cond (bAnd (x + 1) 255 == 0) (k .none (mm pc a (bAnd (x + 1) 255) y sp (bOr (bAnd p (bNot (bOr 2 128))) 2) cyc 0 (.int 0) s m)) (k .none (mm pc a (bAnd (x + 1) 255) y sp (bOr (bAnd p (bNot (bOr 2 128))) (bAnd (bAnd (x + 1) 255) 128)) cyc 0 (.int 0) s m)) := by kernel_rfl
theorem r_0x48 {pc a x y sp p cyc : Int} {s : V} {m : List Int} {k : KM} : callK cls 11 28 [] (mm pc a x y sp p cyc 0 (.int 0) s m) k = (putAt m (sp + 256) (bAnd a 255)).bind fun m1 => k .none (mm pc a x y (bAnd (sp - 1) 255) p cyc 0 (.int 0) s m1) := by kernel_rfl
theorem r_0x8a {pc a x y sp p cyc : Int} {s : V} {m : List Int} {k : KM} : callK cls 11 32 [] (mm pc a x y sp p cyc 0 (.int 0) s m) k = cond (x == 0) (k .none (mm pc x x y sp (bOr (bAnd p (bNot (bOr 2 128))) 2) cyc 0 (.int 0) s m)) (k .none (mm pc x x y sp (bOr (bAnd p (bNot (bOr 2 128))) (bAnd x 128)) cyc 0 (.int 0) s m)) := by kernel_rfl
theorem r_0x29 {pc a x y sp p cyc : Int} {s : V} {m : List Int} {k : KM} : callK cls 11 26 [] (mm pc a x y sp p cyc 0 (.int 0) s m) k = (at? m pc).bind fun v1 => cond (bAnd a v1 == 0) (k .none (mm (pc + 1) (bAnd a v1) x y sp (bOr (bAnd p (bNot (bOr 2 128))) 2) cyc 0 (.int 0) s m)) (k .none (mm (pc + 1) (bAnd a v1) x y sp (bOr (bAnd p (bNot (bOr 2 128))) (bAnd (bAnd a v1) 128)) cyc 0 (.int 0) s m)) := by kernel_rfl
theorem r_0x85 {pc a x y sp p cyc : Int} {s : V} {m : List Int} {k : KM} : callK cls 11 31 [] (mm pc a x y sp p cyc 0 (.int 0) s m) k = (at? m pc).bind fun v1 => (putAt m v1 a).bind fun m2 => k .none (mm (pc + 1) a x y sp p cyc 0 (.int 0) s m2) := by kernel_rfl
theorem r_0x68 {pc a x y sp p cyc : Int} {s : V} {m : List Int} {k : KM} : callK cls 11 30 [] (mm pc a x y sp p cyc 0 (.int 0) s m) k = (at? m ((bAnd (sp + 1) 255) + 256)).bind fun v1 => cond (v1 == 0) (k .none (mm pc v1 x y (bAnd (sp + 1) 255) (bOr (bAnd p (bNot (bOr 2 128))) 2) cyc 0 (.int 0) s m)) (k .none (mm pc v1 x y (bAnd (sp + 1) 255) (bOr (bAnd p (bNot (bOr 2 128))) (bAnd v1 128)) cyc 0 (.int 0) s m)) := by kernel_rfl
theorem r_0xe0 {pc a x y sp p cyc : Int} {s : V} {m : List Int} {k : KM} : callK cls 11 46 [] (mm pc a x y sp p cyc 0 (.int 0) s m) k = (at? m pc).bind fun v1 => cond (x == v1) (k .none (mm (pc + 1) a x y sp (bOr (bOr (bAnd p (bNot (bOr (bOr 1 2) 128))) (bOr 1 2)) (bAnd (x - v1) 128)) cyc 0 (.int 0) s m)) (cond (decide (x > v1)) (k .none (mm (pc + 1) a x y sp (bOr (bOr (bAnd p (bNot (bOr (bOr 1 2) 128))) 1) (bAnd (x - v1) 128)) cyc 0 (.int 0) s m)) (k .none (mm (pc + 1) a x y sp (bOr (bAnd p (bNot (bOr (bOr 1 2) 128))) (bAnd (x - v1) 128)) cyc 0 (.int 0) s m))) := by kernel_rfl
theorem r_0xdd {pc a x y sp p cyc : Int} {s : V} {m : List Int} {k : KM} : callK cls 11 45 [] (mm pc a x y sp p cyc 0 (.int 1) s m) k = (at? m pc).bind fun v1 => (at? m (pc + 1)).bind fun v2 => (BOp.ev .shl v2 8).bind fun w3 => cond (bAnd (v1 + w3) 65280 != bAnd (bAnd ((v1 + w3) + x) 65535) 65280) ((at? m (bAnd ((v1 + w3) + x) 65535)).bind fun v4 => cond (a == v4) (k .none (mm (pc + 2) a x y sp (bOr (bOr (bAnd p (bNot (bOr (bOr 1 2) 128))) (bOr 1 2)) (bAnd (a - v4) 128)) cyc (0 + 1) (.int 1) s m)) (cond (decide (a > v4)) (k .none (mm (pc + 2) a x y sp (bOr (bOr (bAnd p (bNot (bOr (bOr 1 2) 128))) 1) (bAnd (a - v4) 128)) cyc (0 + 1) (.int 1) s m)) (k .none (mm (pc + 2) a x y sp (bOr (bAnd p (bNot (bOr (bOr 1 2) 128))) (bAnd (a - v4) 128)) cyc (0 + 1) (.int 1) s m)))) ((at? m (bAnd ((v1 + w3) + x) 65535)).bind fun v5 => cond (a == v5) (k .none (mm (pc + 2) a x y sp (bOr (bOr (bAnd p (bNot (bOr (bOr 1 2) 128))) (bOr 1 2)) (bAnd (a - v5) 128)) cyc 0 (.int 1) s m)) (cond (decide (a > v5)) (k .none (mm (pc + 2) a x y sp (bOr (bOr (bAnd p (bNot (bOr (bOr 1 2) 128))) 1) (bAnd (a - v5) 128)) cyc 0 (.int 1) s m)) (k .none (mm (pc + 2) a x y sp (bOr (bAnd p (bNot (bOr (bOr 1 2) 128))) (bAnd (a - v5) 128)) cyc 0 (.int 1) s m)))) := by kernel_rfl
theorem r_0xb0 {pc a x y sp p cyc : Int} {s : V} {m : List Int} {k : KM} : callK cls 11 40 [] (mm pc a x y sp p cyc 0 (.int 2) s m) k = cond (bAnd p 1 != 0) ((at? m pc).bind fun v1 => cond (bAnd v1 128 != 0) (cond (bAnd (pc + 1) 65280 != bAnd (((pc + 1) - (bXor v1 255)) - 1) 65280) (k .none (mm (bAnd (((pc + 1) - (bXor v1 255)) - 1) 65535) a x y sp p cyc ((0 + 1) + 1) (.int 2) s m)) (k .none (mm (bAnd (((pc + 1) - (bXor v1 255)) - 1) 65535) a x y sp p cyc (0 + 1) (.int 2) s m))) (cond (bAnd (pc + 1) 65280 != bAnd ((pc + 1) + v1) 65280) (k .none (mm (bAnd ((pc + 1) + v1) 65535) a x y sp p cyc ((0 + 1) + 1) (.int 2) s m)) (k .none (mm (bAnd ((pc + 1) + v1) 65535) a x y sp p cyc (0 + 1) (.int 2) s m)))) (k .none (mm (pc + 1) a x y sp p cyc 0 (.int 2) s m)) := by kernel_rfl
theorem r_0xa8 {pc a x y sp p cyc : Int} {s : V} {m : List Int} {k : KM} : callK cls 11 37 [] (mm pc a x y sp p cyc 0 (.int 0) s m) k = cond (a == 0) (k .none (mm pc a x a sp (bOr (bAnd p (bNot (bOr 2 128))) 2) cyc 0 (.int 0) s m)) (k .none (mm pc a x a sp (bOr (bAnd p (bNot (bOr 2 128))) (bAnd a 128)) cyc 0 (.int 0) s m)) := by kernel_rfl
theorem r_0x9d {pc a x y sp p cyc : Int} {s : V} {m : List Int} {k : KM} : callK cls 11 34 [] (mm pc a x y sp p cyc 0 (.int 0) s m) k = (at? m pc).bind fun v1 => (at? m (pc + 1)).bind fun v2 => (BOp.ev .shl v2 8).bind fun w3 => (putAt m (bAnd ((v1 + w3) + x) 65535) a).bind fun m4 => k .none (mm (pc + 2) a x y sp p cyc 0 (.int 0) s m4) := by kernel_rfl
theorem r_0x98 {pc a x y sp p cyc : Int} {s : V} {m : List Int} {k : KM} : callK cls 11 33 [] (mm pc a x y sp p cyc 0 (.int 0) s m) k = cond (y == 0) (k .none (mm pc y x y sp (bOr (bAnd p (bNot (bOr 2 128))) 2) cyc 0 (.int 0) s m)) (k .none (mm pc y x y sp (bOr (bAnd p (bNot (bOr 2 128))) (bAnd y 128)) cyc 0 (.int 0) s m)) := by kernel_rfl
theorem r_0xca {pc a x y sp p cyc : Int} {s : V} {m : List Int} {k : KM} : callK cls 11 43 [] (mm pc a x y sp p cyc 0 (.int 0) s m) k = cond (bAnd (x - 1) 255 == 0) (k .none (mm pc a (bAnd (x - 1) 255) y sp (bOr (bAnd p (bNot (bOr 2 128))) 2) cyc 0 (.int 0) s m)) (k .none (mm pc a (bAnd (x - 1) 255) y sp (bOr (bAnd p (bNot (bOr 2 128))) (bAnd (bAnd (x - 1) 255) 128)) cyc 0 (.int 0) s m)) := by kernel_rfl
theorem r_0x4c {pc a x y sp p cyc : Int} {s : V} {m : List Int} {k : KM} : callK cls 11 29 [] (mm pc a x y sp p cyc 0 (.int 0) s m) k = (at? m pc).bind fun v1 => (at? m (pc + 1)).bind fun v2 => (BOp.ev .shl v2 8).bind fun w3 => k .none (mm (v1 + w3) a x y sp p cyc 0 (.int 0) s m) := by kernel_rfl
theorem r_0xe6 {pc a x y sp p cyc : Int} {s : V} {m : List Int} {k : KM} : callK cls 11 48 [] (mm pc a x y sp p cyc 0 (.int 0) s m) k = (at? m pc).bind fun v1 => (at? m v1).bind fun v2 => cond (bAnd (v2 + 1) 255 != 0) ((putAt m v1 (bAnd (v2 + 1) 255)).bind fun m3 => k .none (mm (pc + 1) a x y sp (bOr (bAnd p (bNot (bOr 2 128))) (bAnd (bAnd (v2 + 1) 255) 128)) cyc 0 (.int 0) s m3)) ((putAt m v1 (bAnd (v2 + 1) 255)).bind fun m4 => k .none (mm (pc + 1) a x y sp (bOr (bAnd p (bNot (bOr 2 128))) 2) cyc 0 (.int 0) s m4)) := by kernel_rfl
theorem r_0xa5 {pc a x y sp p cyc : Int} {s : V} {m : List Int} {k : KM} : callK cls 11 35 [] (mm pc a x y sp p cyc 0 (.int 0) s m) k = (at? m pc).bind fun v1 => (at? m v1).bind fun v2 => cond (v2 == 0) (k .none (mm (pc + 1) v2 x y sp (bOr (bAnd p (bNot (bOr 2 128))) 2) cyc 0 (.int 0) s m)) (k .none (mm (pc + 1) v2 x y sp (bOr (bAnd p (bNot (bOr 2 128))) (bAnd v2 128)) cyc 0 (.int 0) s m)) := by kernel_rfl
theorem r_0xc9 {pc a x y sp p cyc : Int} {s : V} {m : List Int} {k : KM} : callK cls 11 42 [] (mm pc a x y sp p cyc 0 (.int 0) s m) k = (at? m pc).bind fun v1 => cond (a == v1) (k .none (mm (pc + 1) a x y sp (bOr (bOr (bAnd p (bNot (bOr (bOr 1 2) 128))) (bOr 1 2)) (bAnd (a - v1) 128)) cyc 0 (.int 0) s m)) (cond (decide (a > v1)) (k .none (mm (pc + 1) a x y sp (bOr (bOr (bAnd p (bNot (bOr (bOr 1 2) 128))) 1) (bAnd (a - v1) 128)) cyc 0 (.int 0) s m)) (k .none (mm (pc + 1) a x y sp (bOr (bAnd p (bNot (bOr (bOr 1 2) 128))) (bAnd (a - v1) 128)) cyc 0 (.int 0) s m))) := by kernel_rfl
theorem r_0xd0 {pc a x y sp p cyc : Int} {s : V} {m : List Int} {k : KM} : callK cls 11 44 [] (mm pc a x y sp p cyc 0 (.int 2) s m) k = cond (bAnd p 2 != 0) (k .none (mm (pc + 1) a x y sp p cyc 0 (.int 2) s m)) ((at? m pc).bind fun v1 => cond (bAnd v1 128 != 0) (cond (bAnd (pc + 1) 65280 != bAnd (((pc + 1) - (bXor v1 255)) - 1) 65280) (k .none (mm (bAnd (((pc + 1) - (bXor v1 255)) - 1) 65535) a x y sp p cyc ((0 + 1) + 1) (.int 2) s m)) (k .none (mm (bAnd (((pc + 1) - (bXor v1 255)) - 1) 65535) a x y sp p cyc (0 + 1) (.int 2) s m))) (cond (bAnd (pc + 1) 65280 != bAnd ((pc + 1) + v1) 65280) (k .none (mm (bAnd ((pc + 1) + v1) 65535) a x y sp p cyc ((0 + 1) + 1) (.int 2) s m)) (k .none (mm (bAnd ((pc + 1) + v1) 65535) a x y sp p cyc (0 + 1) (.int 2) s m)))) := by kernel_rfl
theorem r_0xad {pc a x y sp p cyc : Int} {s : V} {m : List Int} {k : KM} : callK cls 11 39 [] (mm pc a x y sp p cyc 0 (.int 0) s m) k = (at? m pc).bind fun v1 => (at? m (pc + 1)).bind fun v2 => (BOp.ev .shl v2 8).bind fun w3 => (at? m (v1 + w3)).bind fun v4 => cond (v4 == 0) (k .none (mm (pc + 2) v4 x y sp (bOr (bAnd p (bNot (bOr 2 128))) 2) cyc 0 (.int 0) s m)) (k .none (mm (pc + 2) v4 x y sp (bOr (bAnd p (bNot (bOr 2 128))) (bAnd v4 128)) cyc 0 (.int 0) s m)) := by kernel_rfl
theorem r_0xaa {pc a x y sp p cyc : Int} {s : V} {m : List Int} {k : KM} : callK cls 11 38 [] (mm pc a x y sp p cyc 0 (.int 0) s m) k = cond (a == 0) (k .none (mm pc a a y sp (bOr (bAnd p (bNot (bOr 2 128))) 2) cyc 0 (.int 0) s m)) (k .none (mm pc a a y sp (bOr (bAnd p (bNot (bOr 2 128))) (bAnd a 128)) cyc 0 (.int 0) s m)) := by kernel_rfl
theorem r_0x40 {pc a x y sp p cyc : Int} {s : V} {m : List Int} {k : KM} : callK cls 11 27 [] (mm pc a x y sp p cyc 0 (.int 0) s m) k = (at? m ((bAnd (sp + 1) 255) + 256)).bind fun v1 => (at? m ((bAnd ((bAnd (sp + 1) 255) + 1) 255) + 256)).bind fun v2 => (at? m ((bAnd ((bAnd ((bAnd (sp + 1) 255) + 1) 255) + 1) 255) + 256)).bind fun v3 => (BOp.ev .shl v3 8).bind fun w4 => k .none (mm (v2 + w4) a x y (bAnd ((bAnd ((bAnd (sp + 1) 255) + 1) 255) + 1) 255) (bOr (bOr v1 16) 32) cyc 0 (.int 0) s m) := by kernel_rfl
theorem r_irq {pc a x y sp p cyc e : Int} {s ad : V} {m : List Int} {k : KM} : callK cls 12 3 [] (mm pc a x y sp p cyc e ad s m) k = cond (bAnd p 4 != 0) (k .none (mm pc a x y sp p cyc e ad s m)) ((putAt m (sp + 256) (bAnd (bAnd (pc.fdiv 256) 255) 255)).bind fun m1 => (putAt m1 ((bAnd (sp - 1) 255) + 256) (bAnd (bAnd pc 255) 255)).bind fun m2 => (putAt m2 ((bAnd ((bAnd (sp - 1) 255) - 1) 255) + 256) (bAnd (bOr (bAnd p (bNot 16)) 32) 255)).bind fun m3 => (at? m3 65534).bind fun v4 => (at? m3 (65534 + 1)).bind fun v5 => (BOp.ev .shl v5 8).bind fun w6 => k .none (mm (v4 + w6) a x y (bAnd ((bAnd ((bAnd (sp - 1) 255) - 1) 255) - 1) 255) (bOr (bAnd p (bNot 16)) 4) (cyc + 7) e ad s m3)) := by kernel_rfl
theorem r_nmi {pc a x y sp p cyc e : Int} {s ad : V} {m : List Int} {k : KM} : callK cls 12 4 [] (mm pc a x y sp p cyc e ad s m) k = (putAt m (sp + 256) (bAnd (bAnd (pc.fdiv 256) 255) 255)).bind fun m1 => (putAt m1 ((bAnd (sp - 1) 255) + 256) (bAnd (bAnd pc 255) 255)).bind fun m2 => (putAt m2 ((bAnd ((bAnd (sp - 1) 255) - 1) 255) + 256) (bAnd (bOr (bAnd p (bNot 16)) 32) 255)).bind fun m3 => (at? m3 65530).bind fun v4 => (at? m3 (65530 + 1)).bind fun v5 => (BOp.ev .shl v5 8).bind fun w6 => k .none (mm (v4 + w6) a x y (bAnd ((bAnd ((bAnd (sp - 1) 255) - 1) 255) - 1) 255) (bOr (bAnd p (bNot 16)) 4) (cyc + 7) e ad s m3) := by kernel_rfl
noncomputable def stepRest : Ss := match md_step.body with
  | .cons _ (.cons _ (.cons _ (.cons _ (.cons _ r)))) => r
  | _ => .nil
theorem r_step1 {pc a x y sp p cyc e : Int} {ad s : V} {m : List Int} {k : KM} : callK cls 12 i_step [] (mm pc a x y sp p cyc e ad s m) k = (at? m pc).bind fun op => (at? tab_extracycles op).bind fun xt => if 0 ≤ op then (theInstr[op.toNat]?).bind fun j => callK cls 11 j [] (mm (bAnd (pc + 1) 65535) a x y sp p cyc 0 (.int xt) s m) (fun _ σ => kSs cls (callK cls 11) stepRest [some .self, some (.int op)] σ fun fl _ σ' => k fl.out σ') else none := by kernel_rfl
theorem r_step2 {pc a x y sp p cyc e op : Int} {ad s : V} {m : List Int} {k : KS} : kSs cls (callK cls 11) stepRest [some .self, some (.int op)] (mm pc a x y sp p cyc e ad s m) k = (at? tab_cycletime op).bind fun ct => k (.ret .self) [some .self, some (.int op)] (mm (bAnd pc 65535) a x y sp p (cyc + (ct + e)) e ad s m) := by kernel_rfl
structure Y where
  pc : Int
  a : Int
  x : Int
  y : Int
  sp : Int
  n : Bool
  v : Bool
  bb : Bool
  d : Bool
  i : Bool
  z : Bool
  c : Bool
  cyc : Int
  mem : List Int
noncomputable def Y.m (u : Y) (e : Int) (ad s : V) : M := mm u.pc u.a u.x u.y u.sp (pk u.n u.v u.bb u.d u.i u.z u.c) u.cyc e ad s u.mem
noncomputable def Stp (u u' : Y) : Prop := ∀ e ad s, ∃ e' ad', callM cls deep i_step [] (u.m e ad s) = some (.self, u'.m e' ad' s)
theorem stp_of {u u' : Y} {op ct xt e : Int} {j : Nat} (hT : (at? tab_cycletime op, at? tab_extracycles op, theInstr[op.toNat]?, decide (0 ≤ op)) = (some ct, some xt, some j, true)) (hop : at? u.mem u.pc = some op) (hp : 0 ≤ u.pc ∧ u.pc < 65535)
    (hc : ∀ (s : V) (k : KM), callK cls 11 j [] (mm (u.pc + 1) u.a u.x u.y u.sp (pk u.n u.v u.bb u.d u.i u.z u.c) u.cyc 0 (.int xt) s u.mem) k = k .none (u'.m e (.int xt) s)) (hq : 0 ≤ u'.pc ∧ u'.pc < 65536) : Stp u { u' with cyc := u'.cyc + (ct + e) } := by
  intro e0 a0 s
  obtain ⟨h0, h1, h2, h3⟩ : _ ∧ _ ∧ _ ∧ _ := by simpa only [Prod.mk.injEq] using hT
  refine ⟨e, .int xt, callM_of (r_step1.trans (bE hop (bE h1 (iE (of_decide_eq_true h3) (bE h2 ?_)))))⟩
  rw [show bAnd (u.pc + 1) 65535 = u.pc + 1 from and_65535 (by lia) (by lia), hc]
  exact r_step2.trans (bE h0 (by rw [show bAnd u'.pc 65535 = u'.pc from and_65535 hq.1 hq.2]; rfl))
noncomputable def Oc (m : List Int) (k w : Int) : Prop := at? m k = some w ∧ Oct w
theorem oct_mod (w : Int) : Oct (w % 256) := ⟨by lia, by lia⟩
theorem pk_rti : ∀ n v bb d i z c, bOr (bOr (pk n v bb d i z c) 16) 32 = pk n v true d i z c := by decide +kernel
section
variable {pc a x y sp cyc : Int} {n v bb d i z c : Bool} {m : List Int}
theorem s_LDAz {k w : Int} (h0 : at? m pc = some 165) (h1 : at? m (pc + 1) = some k) (hv : Oc m k w) (hp : 0 ≤ pc ∧ pc < 65000) :
    Stp ⟨pc, a, x, y, sp, n, v, bb, d, i, z, c, cyc, m⟩ ⟨pc + 1 + 1, w, x, y, sp, decide (128 ≤ w), v, bb, d, i, decide (w = 0), c, cyc + (3 + 0), m⟩ := 
  stp_of (u := ⟨pc, a, x, y, sp, n, v, bb, d, i, z, c, cyc, m⟩) (u' := ⟨pc + 1 + 1, w, x, y, sp, decide (128 ≤ w), v, bb, d, i, decide (w = 0), c, cyc, m⟩) (xt := 0) (e := 0) (by kernel_rfl) h0 (by dsimp only; lia) (fun s k' => (r_0xa5).trans (bE h1 (bE hv.1 (fl_NZ (fun q => k' .none (mm (pc + 1 + 1) w x y sp q cyc 0 (.int 0) s m)) hv.2)))) (by dsimp only; lia)
theorem s_LDXz {k w : Int} (h0 : at? m pc = some 166) (h1 : at? m (pc + 1) = some k) (hv : Oc m k w) (hp : 0 ≤ pc ∧ pc < 65000) :
    Stp ⟨pc, a, x, y, sp, n, v, bb, d, i, z, c, cyc, m⟩ ⟨pc + 1 + 1, a, w, y, sp, decide (128 ≤ w), v, bb, d, i, decide (w = 0), c, cyc + (3 + 0), m⟩ := 
  stp_of (u := ⟨pc, a, x, y, sp, n, v, bb, d, i, z, c, cyc, m⟩) (u' := ⟨pc + 1 + 1, a, w, y, sp, decide (128 ≤ w), v, bb, d, i, decide (w = 0), c, cyc, m⟩) (xt := 0) (e := 0) (by kernel_rfl) h0 (by dsimp only; lia) (fun s k' => (r_0xa6).trans (bE h1 (bE hv.1 (fl_NZ (fun q => k' .none (mm (pc + 1 + 1) a w y sp q cyc 0 (.int 0) s m)) hv.2)))) (by dsimp only; lia)
theorem s_INCz {k w : Int} (h0 : at? m pc = some 230) (h1 : at? m (pc + 1) = some k) (hv : Oc m k w) (hp : 0 ≤ pc ∧ pc < 65000) :
    Stp ⟨pc, a, x, y, sp, n, v, bb, d, i, z, c, cyc, m⟩ ⟨pc + 1 + 1, a, x, y, sp, decide (128 ≤ (w + 1) % 256), v, bb, d, i, decide ((w + 1) % 256 = 0), c, cyc + (5 + 0), m.set k.toNat ((w + 1) % 256)⟩ := 
  stp_of (u := ⟨pc, a, x, y, sp, n, v, bb, d, i, z, c, cyc, m⟩) (u' := ⟨pc + 1 + 1, a, x, y, sp, decide (128 ≤ (w + 1) % 256), v, bb, d, i, decide ((w + 1) % 256 = 0), c, cyc, m.set k.toNat ((w + 1) % 256)⟩) (xt := 0) (e := 0) (by kernel_rfl) h0 (by dsimp only; lia) (fun s k' => (r_0xe6).trans (bE h1 (bE hv.1 (by
    rw [oct_inc hv.2]
    exact (fl_NZ' (fun q => (putAt m k ((w + 1) % 256)).bind fun m' => k' .none (mm (pc + 1 + 1) a x y sp q cyc 0 (.int 0) s m')) (oct_mod _)).trans (bE (put_at hv.1 _) rfl))))) (by dsimp only; lia)
theorem s_STAz {k w : Int} (h0 : at? m pc = some 133) (h1 : at? m (pc + 1) = some k) (hv : at? m k = some w) (hp : 0 ≤ pc ∧ pc < 65000) :
    Stp ⟨pc, a, x, y, sp, n, v, bb, d, i, z, c, cyc, m⟩ ⟨pc + 1 + 1, a, x, y, sp, n, v, bb, d, i, z, c, cyc + (3 + 0), m.set k.toNat a⟩ := 
  stp_of (u := ⟨pc, a, x, y, sp, n, v, bb, d, i, z, c, cyc, m⟩) (u' := ⟨pc + 1 + 1, a, x, y, sp, n, v, bb, d, i, z, c, cyc, m.set k.toNat a⟩) (xt := 0) (e := 0) (by kernel_rfl) h0 (by dsimp only; lia) (fun s k' => (r_0x85).trans (bE h1 (bE (put_at hv _) rfl))) (by dsimp only; lia)
theorem s_DEX (h0 : at? m pc = some 202) (ox : Oct x) (hp : 0 ≤ pc ∧ pc < 65000) :
    Stp ⟨pc, a, x, y, sp, n, v, bb, d, i, z, c, cyc, m⟩ ⟨pc + 1, a, (x - 1) % 256, y, sp, decide (128 ≤ (x - 1) % 256), v, bb, d, i, decide ((x - 1) % 256 = 0), c, cyc + (2 + 0), m⟩ := 
  stp_of (u := ⟨pc, a, x, y, sp, n, v, bb, d, i, z, c, cyc, m⟩) (u' := ⟨pc + 1, a, (x - 1) % 256, y, sp, decide (128 ≤ (x - 1) % 256), v, bb, d, i, decide ((x - 1) % 256 = 0), c, cyc, m⟩) (xt := 0) (e := 0) (by kernel_rfl) h0 (by dsimp only; lia) (fun s k' => (r_0xca).trans (by
    show cond (bAnd (x - 1) 255 == 0) _ _ = _
    rw [oct_dec ox]
    exact fl_NZ (fun q => k' .none (mm (pc + 1) a ((x - 1) % 256) y sp q cyc 0 (.int 0) s m)) (oct_mod _))) (by dsimp only; lia)
theorem s_BNE_no (h0 : at? m pc = some 208) (hp : 0 ≤ pc ∧ pc < 65000) :
    Stp ⟨pc, a, x, y, sp, n, v, bb, d, i, true, c, cyc, m⟩ ⟨pc + 1 + 1, a, x, y, sp, n, v, bb, d, i, true, c, cyc + (2 + 0), m⟩ := 
  stp_of (u := ⟨pc, a, x, y, sp, n, v, bb, d, i, true, c, cyc, m⟩) (u' := ⟨pc + 1 + 1, a, x, y, sp, n, v, bb, d, i, true, c, cyc, m⟩) (xt := 2) (e := 0) (by kernel_rfl) h0 (by dsimp only; lia) (fun s k' => (r_0xd0).trans (cE (fun h => rfl) (fun h => by rw [z_on] at h; cases h))) (by dsimp only; lia)
theorem s_BNE {b t : Int} (h0 : at? m pc = some 208) (h1 : Oc m (pc + 1) b) (ht : t = if 128 ≤ b then pc + 1 + 1 + b - 256 else pc + 1 + 1 + b) (tb : 0 ≤ t ∧ t < 65536) (same : (pc + 1 + 1) / 256 = t / 256) (hp : 0 ≤ pc ∧ pc < 65000) :
    Stp ⟨pc, a, x, y, sp, n, v, bb, d, i, false, c, cyc, m⟩ ⟨t, a, x, y, sp, n, v, bb, d, i, false, c, cyc + (2 + 1), m⟩ := 
  stp_of (u := ⟨pc, a, x, y, sp, n, v, bb, d, i, false, c, cyc, m⟩) (u' := ⟨t, a, x, y, sp, n, v, bb, d, i, false, c, cyc, m⟩) (xt := 2) (e := 1) (by kernel_rfl) h0 (by dsimp only; lia) (fun s k' => (r_0xd0).trans (cE (fun h => by rw [z_on] at h; cases h) (fun h => bE h1.1 (fl_br (fun t e => k' .none (mm t a x y sp (pk n v bb d i false c) cyc e (.int 2) s m)) h1.2 ht tb.1 tb.2 (by dsimp only; lia) (by dsimp only; lia) same)))) (tb)
theorem s_BCS_no (h0 : at? m pc = some 176) (hp : 0 ≤ pc ∧ pc < 65000) :
    Stp ⟨pc, a, x, y, sp, n, v, bb, d, i, z, false, cyc, m⟩ ⟨pc + 1 + 1, a, x, y, sp, n, v, bb, d, i, z, false, cyc + (2 + 0), m⟩ := 
  stp_of (u := ⟨pc, a, x, y, sp, n, v, bb, d, i, z, false, cyc, m⟩) (u' := ⟨pc + 1 + 1, a, x, y, sp, n, v, bb, d, i, z, false, cyc, m⟩) (xt := 2) (e := 0) (by kernel_rfl) h0 (by dsimp only; lia) (fun s k' => (r_0xb0).trans (cE (fun h => by rw [c_on] at h; cases h) (fun h => rfl))) (by dsimp only; lia)
theorem s_BCS {b t : Int} (h0 : at? m pc = some 176) (h1 : Oc m (pc + 1) b) (ht : t = if 128 ≤ b then pc + 1 + 1 + b - 256 else pc + 1 + 1 + b) (tb : 0 ≤ t ∧ t < 65536) (same : (pc + 1 + 1) / 256 = t / 256) (hp : 0 ≤ pc ∧ pc < 65000) :
    Stp ⟨pc, a, x, y, sp, n, v, bb, d, i, z, true, cyc, m⟩ ⟨t, a, x, y, sp, n, v, bb, d, i, z, true, cyc + (2 + 1), m⟩ := 
  stp_of (u := ⟨pc, a, x, y, sp, n, v, bb, d, i, z, true, cyc, m⟩) (u' := ⟨t, a, x, y, sp, n, v, bb, d, i, z, true, cyc, m⟩) (xt := 2) (e := 1) (by kernel_rfl) h0 (by dsimp only; lia) (fun s k' => (r_0xb0).trans (cE (fun h => bE h1.1 (fl_br (fun t e => k' .none (mm t a x y sp (pk n v bb d i z true) cyc e (.int 2) s m)) h1.2 ht tb.1 tb.2 (by dsimp only; lia) (by dsimp only; lia) same)) (fun h => by rw [c_on] at h; cases h))) (tb)
theorem s_BEQ_no (h0 : at? m pc = some 240) (hp : 0 ≤ pc ∧ pc < 65000) :
    Stp ⟨pc, a, x, y, sp, n, v, bb, d, i, false, c, cyc, m⟩ ⟨pc + 1 + 1, a, x, y, sp, n, v, bb, d, i, false, c, cyc + (2 + 0), m⟩ := 
  stp_of (u := ⟨pc, a, x, y, sp, n, v, bb, d, i, false, c, cyc, m⟩) (u' := ⟨pc + 1 + 1, a, x, y, sp, n, v, bb, d, i, false, c, cyc, m⟩) (xt := 2) (e := 0) (by kernel_rfl) h0 (by dsimp only; lia) (fun s k' => (r_0xf0).trans (cE (fun h => by rw [z_on] at h; cases h) (fun h => rfl))) (by dsimp only; lia)
theorem s_BEQ {b t : Int} (h0 : at? m pc = some 240) (h1 : Oc m (pc + 1) b) (ht : t = if 128 ≤ b then pc + 1 + 1 + b - 256 else pc + 1 + 1 + b) (tb : 0 ≤ t ∧ t < 65536) (same : (pc + 1 + 1) / 256 = t / 256) (hp : 0 ≤ pc ∧ pc < 65000) :
    Stp ⟨pc, a, x, y, sp, n, v, bb, d, i, true, c, cyc, m⟩ ⟨t, a, x, y, sp, n, v, bb, d, i, true, c, cyc + (2 + 1), m⟩ := 
  stp_of (u := ⟨pc, a, x, y, sp, n, v, bb, d, i, true, c, cyc, m⟩) (u' := ⟨t, a, x, y, sp, n, v, bb, d, i, true, c, cyc, m⟩) (xt := 2) (e := 1) (by kernel_rfl) h0 (by dsimp only; lia) (fun s k' => (r_0xf0).trans (cE (fun h => bE h1.1 (fl_br (fun t e => k' .none (mm t a x y sp (pk n v bb d i true c) cyc e (.int 2) s m)) h1.2 ht tb.1 tb.2 (by dsimp only; lia) (by dsimp only; lia) same)) (fun h => by rw [z_on] at h; cases h))) (tb)
theorem s_JMP {b b' t : Int} (h0 : at? m pc = some 76) (h1 : at? m (pc + 1) = some b) (h2 : Oc m (pc + 1 + 1) b') (ht : t = b + b' * 256) (tb : 0 ≤ t ∧ t < 65536) (hp : 0 ≤ pc ∧ pc < 65000) :
    Stp ⟨pc, a, x, y, sp, n, v, bb, d, i, z, c, cyc, m⟩ ⟨t, a, x, y, sp, n, v, bb, d, i, z, c, cyc + (3 + 0), m⟩ := 
  stp_of (u := ⟨pc, a, x, y, sp, n, v, bb, d, i, z, c, cyc, m⟩) (u' := ⟨t, a, x, y, sp, n, v, bb, d, i, z, c, cyc, m⟩) (xt := 0) (e := 0) (by kernel_rfl) h0 (by dsimp only; lia) (fun s k' => (r_0x4c).trans (bE h1 (bE h2.1 (bE (shl8 h2.2) (ht ▸ rfl))))) (tb)
theorem s_CPXi {w : Int} (h0 : at? m pc = some 224) (hv : Oc m (pc + 1) w) (ox : Oct x) (hp : 0 ≤ pc ∧ pc < 65000) :
    Stp ⟨pc, a, x, y, sp, n, v, bb, d, i, z, c, cyc, m⟩ ⟨pc + 1 + 1, a, x, y, sp, decide (128 ≤ (x - w) % 256), v, bb, d, i, decide (x = w), decide (w ≤ x), cyc + (2 + 0), m⟩ := 
  stp_of (u := ⟨pc, a, x, y, sp, n, v, bb, d, i, z, c, cyc, m⟩) (u' := ⟨pc + 1 + 1, a, x, y, sp, decide (128 ≤ (x - w) % 256), v, bb, d, i, decide (x = w), decide (w ≤ x), cyc, m⟩) (xt := 0) (e := 0) (by kernel_rfl) h0 (by dsimp only; lia) (fun s k' => (r_0xe0).trans (bE hv.1 (fl_CMP (fun q => k' .none (mm (pc + 1 + 1) a x y sp q cyc 0 (.int 0) s m)) hv.2 ox))) (by dsimp only; lia)
theorem s_PHA {w : Int} (h0 : at? m pc = some 72) (os : Oct sp) (oa : Oct a) (g : at? m (sp + 256) = some w) (hp : 0 ≤ pc ∧ pc < 65000) :
    Stp ⟨pc, a, x, y, sp, n, v, bb, d, i, z, c, cyc, m⟩ ⟨pc + 1, a, x, y, (sp - 1) % 256, n, v, bb, d, i, z, c, cyc + (3 + 0), m.set (sp + 256).toNat a⟩ := 
  stp_of (u := ⟨pc, a, x, y, sp, n, v, bb, d, i, z, c, cyc, m⟩) (u' := ⟨pc + 1, a, x, y, (sp - 1) % 256, n, v, bb, d, i, z, c, cyc, m.set (sp + 256).toNat a⟩) (xt := 0) (e := 0) (by kernel_rfl) h0 (by dsimp only; lia) (fun s k' => by
    refine (r_0x48).trans ?_
    rw [oct_self oa, oct_dec os]
    exact bE (put_at g _) rfl) (by dsimp only; lia)
theorem s_INX (h0 : at? m pc = some 232) (ox : Oct x) (hp : 0 ≤ pc ∧ pc < 65000) :
    Stp ⟨pc, a, x, y, sp, n, v, bb, d, i, z, c, cyc, m⟩ ⟨pc + 1, a, (x + 1) % 256, y, sp, decide (128 ≤ (x + 1) % 256), v, bb, d, i, decide ((x + 1) % 256 = 0), c, cyc + (2 + 0), m⟩ := 
  stp_of (u := ⟨pc, a, x, y, sp, n, v, bb, d, i, z, c, cyc, m⟩) (u' := ⟨pc + 1, a, (x + 1) % 256, y, sp, decide (128 ≤ (x + 1) % 256), v, bb, d, i, decide ((x + 1) % 256 = 0), c, cyc, m⟩) (xt := 0) (e := 0) (by kernel_rfl) h0 (by dsimp only; lia) (fun s k' => (r_0xe8).trans (by
    show cond (bAnd (x + 1) 255 == 0) _ _ = _
    rw [oct_inc ox]
    exact fl_NZ (fun q => k' .none (mm (pc + 1) a ((x + 1) % 256) y sp q cyc 0 (.int 0) s m)) (oct_mod _))) (by dsimp only; lia)
theorem s_CPXz {k w : Int} (h0 : at? m pc = some 228) (h1 : at? m (pc + 1) = some k) (hv : Oc m k w) (ox : Oct x) (hp : 0 ≤ pc ∧ pc < 65000) :
    Stp ⟨pc, a, x, y, sp, n, v, bb, d, i, z, c, cyc, m⟩ ⟨pc + 1 + 1, a, x, y, sp, decide (128 ≤ (x - w) % 256), v, bb, d, i, decide (x = w), decide (w ≤ x), cyc + (3 + 0), m⟩ := 
  stp_of (u := ⟨pc, a, x, y, sp, n, v, bb, d, i, z, c, cyc, m⟩) (u' := ⟨pc + 1 + 1, a, x, y, sp, decide (128 ≤ (x - w) % 256), v, bb, d, i, decide (x = w), decide (w ≤ x), cyc, m⟩) (xt := 0) (e := 0) (by kernel_rfl) h0 (by dsimp only; lia) (fun s k' => (r_0xe4).trans (bE h1 (bE hv.1 (fl_CMP (fun q => k' .none (mm (pc + 1 + 1) a x y sp q cyc 0 (.int 0) s m)) hv.2 ox)))) (by dsimp only; lia)
theorem s_CMPi {w : Int} (h0 : at? m pc = some 201) (hv : Oc m (pc + 1) w) (oa : Oct a) (hp : 0 ≤ pc ∧ pc < 65000) :
    Stp ⟨pc, a, x, y, sp, n, v, bb, d, i, z, c, cyc, m⟩ ⟨pc + 1 + 1, a, x, y, sp, decide (128 ≤ (a - w) % 256), v, bb, d, i, decide (a = w), decide (w ≤ a), cyc + (2 + 0), m⟩ := 
  stp_of (u := ⟨pc, a, x, y, sp, n, v, bb, d, i, z, c, cyc, m⟩) (u' := ⟨pc + 1 + 1, a, x, y, sp, decide (128 ≤ (a - w) % 256), v, bb, d, i, decide (a = w), decide (w ≤ a), cyc, m⟩) (xt := 0) (e := 0) (by kernel_rfl) h0 (by dsimp only; lia) (fun s k' => (r_0xc9).trans (bE hv.1 (fl_CMP (fun q => k' .none (mm (pc + 1 + 1) a x y sp q cyc 0 (.int 0) s m)) hv.2 oa))) (by dsimp only; lia)
theorem s_TXA (h0 : at? m pc = some 138) (or : Oct x) (hp : 0 ≤ pc ∧ pc < 65000) :
    Stp ⟨pc, a, x, y, sp, n, v, bb, d, i, z, c, cyc, m⟩ ⟨pc + 1, x, x, y, sp, decide (128 ≤ x), v, bb, d, i, decide (x = 0), c, cyc + (2 + 0), m⟩ := 
  stp_of (u := ⟨pc, a, x, y, sp, n, v, bb, d, i, z, c, cyc, m⟩) (u' := ⟨pc + 1, x, x, y, sp, decide (128 ≤ x), v, bb, d, i, decide (x = 0), c, cyc, m⟩) (xt := 0) (e := 0) (by kernel_rfl) h0 (by dsimp only; lia) (fun s k' => (r_0x8a).trans (fl_NZ (fun q => k' .none (mm (pc + 1) x x y sp q cyc 0 (.int 0) s m)) or)) (by dsimp only; lia)
theorem s_TAX (h0 : at? m pc = some 170) (or : Oct a) (hp : 0 ≤ pc ∧ pc < 65000) :
    Stp ⟨pc, a, x, y, sp, n, v, bb, d, i, z, c, cyc, m⟩ ⟨pc + 1, a, a, y, sp, decide (128 ≤ a), v, bb, d, i, decide (a = 0), c, cyc + (2 + 0), m⟩ := 
  stp_of (u := ⟨pc, a, x, y, sp, n, v, bb, d, i, z, c, cyc, m⟩) (u' := ⟨pc + 1, a, a, y, sp, decide (128 ≤ a), v, bb, d, i, decide (a = 0), c, cyc, m⟩) (xt := 0) (e := 0) (by kernel_rfl) h0 (by dsimp only; lia) (fun s k' => (r_0xaa).trans (fl_NZ (fun q => k' .none (mm (pc + 1) a a y sp q cyc 0 (.int 0) s m)) or)) (by dsimp only; lia)
theorem s_TAY (h0 : at? m pc = some 168) (or : Oct a) (hp : 0 ≤ pc ∧ pc < 65000) :
    Stp ⟨pc, a, x, y, sp, n, v, bb, d, i, z, c, cyc, m⟩ ⟨pc + 1, a, x, a, sp, decide (128 ≤ a), v, bb, d, i, decide (a = 0), c, cyc + (2 + 0), m⟩ := 
  stp_of (u := ⟨pc, a, x, y, sp, n, v, bb, d, i, z, c, cyc, m⟩) (u' := ⟨pc + 1, a, x, a, sp, decide (128 ≤ a), v, bb, d, i, decide (a = 0), c, cyc, m⟩) (xt := 0) (e := 0) (by kernel_rfl) h0 (by dsimp only; lia) (fun s k' => (r_0xa8).trans (fl_NZ (fun q => k' .none (mm (pc + 1) a x a sp q cyc 0 (.int 0) s m)) or)) (by dsimp only; lia)
theorem s_TYA (h0 : at? m pc = some 152) (or : Oct y) (hp : 0 ≤ pc ∧ pc < 65000) :
    Stp ⟨pc, a, x, y, sp, n, v, bb, d, i, z, c, cyc, m⟩ ⟨pc + 1, y, x, y, sp, decide (128 ≤ y), v, bb, d, i, decide (y = 0), c, cyc + (2 + 0), m⟩ := 
  stp_of (u := ⟨pc, a, x, y, sp, n, v, bb, d, i, z, c, cyc, m⟩) (u' := ⟨pc + 1, y, x, y, sp, decide (128 ≤ y), v, bb, d, i, decide (y = 0), c, cyc, m⟩) (xt := 0) (e := 0) (by kernel_rfl) h0 (by dsimp only; lia) (fun s k' => (r_0x98).trans (fl_NZ (fun q => k' .none (mm (pc + 1) y x y sp q cyc 0 (.int 0) s m)) or)) (by dsimp only; lia)
theorem s_ANDi {w r : Int} (h0 : at? m pc = some 41) (h1 : at? m (pc + 1) = some w) (hr : bAnd a w = r) (or : Oct r) (hp : 0 ≤ pc ∧ pc < 65000) :
    Stp ⟨pc, a, x, y, sp, n, v, bb, d, i, z, c, cyc, m⟩ ⟨pc + 1 + 1, r, x, y, sp, decide (128 ≤ r), v, bb, d, i, decide (r = 0), c, cyc + (2 + 0), m⟩ := 
  stp_of (u := ⟨pc, a, x, y, sp, n, v, bb, d, i, z, c, cyc, m⟩) (u' := ⟨pc + 1 + 1, r, x, y, sp, decide (128 ≤ r), v, bb, d, i, decide (r = 0), c, cyc, m⟩) (xt := 0) (e := 0) (by kernel_rfl) h0 (by dsimp only; lia) (fun s k' => by
    refine (r_0x29).trans (bE h1 ?_)
    rw [hr]
    exact fl_NZ (fun q => k' .none (mm (pc + 1 + 1) r x y sp q cyc 0 (.int 0) s m)) or) (by dsimp only; lia)
theorem s_PLA {w : Int} (h0 : at? m pc = some 104) (os : Oct sp) (hv : Oc m ((sp + 1) % 256 + 256) w) (hp : 0 ≤ pc ∧ pc < 65000) :
    Stp ⟨pc, a, x, y, sp, n, v, bb, d, i, z, c, cyc, m⟩ ⟨pc + 1, w, x, y, (sp + 1) % 256, decide (128 ≤ w), v, bb, d, i, decide (w = 0), c, cyc + (4 + 0), m⟩ := 
  stp_of (u := ⟨pc, a, x, y, sp, n, v, bb, d, i, z, c, cyc, m⟩) (u' := ⟨pc + 1, w, x, y, (sp + 1) % 256, decide (128 ≤ w), v, bb, d, i, decide (w = 0), c, cyc, m⟩) (xt := 0) (e := 0) (by kernel_rfl) h0 (by dsimp only; lia) (fun s k' => by
    refine (r_0x68).trans ?_
    rw [oct_inc os]
    exact bE hv.1 (fl_NZ (fun q => k' .none (mm (pc + 1) w x y ((sp + 1) % 256) q cyc 0 (.int 0) s m)) hv.2)) (by dsimp only; lia)
theorem s_LDAa {lo hi w : Int} (h0 : at? m pc = some 173) (h1 : at? m (pc + 1) = some lo) (h2 : Oc m (pc + 1 + 1) hi) (hv : Oc m (lo + hi * 256) w) (hp : 0 ≤ pc ∧ pc < 65000) :
    Stp ⟨pc, a, x, y, sp, n, v, bb, d, i, z, c, cyc, m⟩ ⟨pc + 1 + 2, w, x, y, sp, decide (128 ≤ w), v, bb, d, i, decide (w = 0), c, cyc + (4 + 0), m⟩ := 
  stp_of (u := ⟨pc, a, x, y, sp, n, v, bb, d, i, z, c, cyc, m⟩) (u' := ⟨pc + 1 + 2, w, x, y, sp, decide (128 ≤ w), v, bb, d, i, decide (w = 0), c, cyc, m⟩) (xt := 0) (e := 0) (by kernel_rfl) h0 (by dsimp only; lia) (fun s k' => (r_0xad).trans (bE h1 (bE h2.1 (bE (shl8 h2.2) (bE hv.1 (fl_NZ (fun q => k' .none (mm (pc + 1 + 2) w x y sp q cyc 0 (.int 0) s m)) hv.2)))))) (by dsimp only; lia)
theorem s_STAax {lo hi w t : Int} (h0 : at? m pc = some 157) (h1 : at? m (pc + 1) = some lo) (h2 : Oc m (pc + 1 + 1) hi) (ht : t = lo + hi * 256 + x) (tb : 0 ≤ t ∧ t < 65536) (hv : at? m t = some w) (hp : 0 ≤ pc ∧ pc < 65000) :
    Stp ⟨pc, a, x, y, sp, n, v, bb, d, i, z, c, cyc, m⟩ ⟨pc + 1 + 2, a, x, y, sp, n, v, bb, d, i, z, c, cyc + (5 + 0), m.set t.toNat a⟩ := 
  stp_of (u := ⟨pc, a, x, y, sp, n, v, bb, d, i, z, c, cyc, m⟩) (u' := ⟨pc + 1 + 2, a, x, y, sp, n, v, bb, d, i, z, c, cyc, m.set t.toNat a⟩) (xt := 0) (e := 0) (by kernel_rfl) h0 (by dsimp only; lia) (fun s k' => by
    refine (r_0x9d).trans (bE h1 (bE h2.1 (bE (shl8 h2.2) ?_)))
    rw [← ht, and_65535 tb.1 tb.2]
    exact bE (put_at hv _) rfl) (by dsimp only; lia)
theorem s_RTI {lo hi t : Int} {n' v' b' d' i' z' c' : Bool} (h0 : at? m pc = some 64) (os : Oct sp) (h1 : at? m ((sp + 1) % 256 + 256) = some (pk n' v' b' d' i' z' c')) (h2 : at? m ((sp + 2) % 256 + 256) = some lo) (h3 : Oc m ((sp + 3) % 256 + 256) hi) (ht : t = lo + hi * 256) (tb : 0 ≤ t ∧ t < 65536) (hp : 0 ≤ pc ∧ pc < 65000) :
    Stp ⟨pc, a, x, y, sp, n, v, bb, d, i, z, c, cyc, m⟩ ⟨t, a, x, y, (sp + 3) % 256, n', v', true, d', i', z', c', cyc + (6 + 0), m⟩ := 
  stp_of (u := ⟨pc, a, x, y, sp, n, v, bb, d, i, z, c, cyc, m⟩) (u' := ⟨t, a, x, y, (sp + 3) % 256, n', v', true, d', i', z', c', cyc, m⟩) (xt := 0) (e := 0) (by kernel_rfl) h0 (by dsimp only; lia) (fun s k' => by
    have e1 := oct_inc os
    have e2 : bAnd ((sp + 1) % 256 + 1) 255 = (sp + 2) % 256 := (oct_inc (oct_mod _)).trans (by lia)
    have e3 : bAnd ((sp + 2) % 256 + 1) 255 = (sp + 3) % 256 := (oct_inc (oct_mod _)).trans (by lia)
    refine (r_0x40).trans ?_
    rw [e1, e2, e3]
    exact bE h1 (bE h2 (bE h3.1 (bE (shl8 h3.2) (by rw [pk_rti]; exact ht ▸ rfl))))) (tb)
theorem s_LDAax {lo hi w t : Int} (h0 : at? m pc = some 189) (h1 : at? m (pc + 1) = some lo) (h2 : Oc m (pc + 1 + 1) hi) (ht : t = lo + hi * 256 + x) (tb : 0 ≤ t ∧ t < 65536) (hv : Oc m t w) (hp : 0 ≤ pc ∧ pc < 65000) :
    ∃ cyc', Stp ⟨pc, a, x, y, sp, n, v, bb, d, i, z, c, cyc, m⟩ ⟨pc + 1 + 2, w, x, y, sp, decide (128 ≤ w), v, bb, d, i, decide (w = 0), c, cyc', m⟩ := by
  have e1 : bAnd (lo + hi * 256 + x) 65535 = t := by rw [← ht, and_65535 tb.1 tb.2]
  have key : ∃ e : Int, ∀ (s : V) (k' : KM), callK cls 11 41 [] (mm (pc + 1) a x y sp (pk n v bb d i z c) cyc 0 (.int 1) s m) k' = k' .none ((⟨pc + 1 + 2, w, x, y, sp, decide (128 ≤ w), v, bb, d, i, decide (w = 0), c, cyc, m⟩ : Y).m e (.int 1) s) := by
    cases hb : (bAnd (lo + hi * 256) 65280 != bAnd t 65280)
    · refine ⟨0, fun s k' => (r_0xbd).trans (bE h1 (bE h2.1 (bE (shl8 h2.2) ?_)))⟩
      rw [e1, hb]
      exact bE hv.1 (fl_NZ (fun q => k' .none (mm (pc + 1 + 2) w x y sp q cyc 0 (.int 1) s m)) hv.2)
    · refine ⟨1, fun s k' => (r_0xbd).trans (bE h1 (bE h2.1 (bE (shl8 h2.2) ?_)))⟩
      rw [e1, hb]
      exact bE hv.1 (fl_NZ (fun q => k' .none (mm (pc + 1 + 2) w x y sp q cyc 1 (.int 1) s m)) hv.2)
  obtain ⟨e, key⟩ := key
  exact ⟨_, stp_of (u := ⟨pc, a, x, y, sp, n, v, bb, d, i, z, c, cyc, m⟩) (u' := ⟨pc + 1 + 2, w, x, y, sp, decide (128 ≤ w), v, bb, d, i, decide (w = 0), c, cyc, m⟩) (xt := 1) (ct := 4) (e := e) (by kernel_rfl) h0 (by dsimp only; lia) (fun s k => key s k) (by dsimp only; lia)⟩
theorem s_CMPax {lo hi w t : Int} (h0 : at? m pc = some 221) (h1 : at? m (pc + 1) = some lo) (h2 : Oc m (pc + 1 + 1) hi) (ht : t = lo + hi * 256 + x) (tb : 0 ≤ t ∧ t < 65536) (hv : Oc m t w) (oa : Oct a) (hp : 0 ≤ pc ∧ pc < 65000) :
    ∃ cyc', Stp ⟨pc, a, x, y, sp, n, v, bb, d, i, z, c, cyc, m⟩ ⟨pc + 1 + 2, a, x, y, sp, decide (128 ≤ (a - w) % 256), v, bb, d, i, decide (a = w), decide (w ≤ a), cyc', m⟩ := by
  have e1 : bAnd (lo + hi * 256 + x) 65535 = t := by rw [← ht, and_65535 tb.1 tb.2]
  have key : ∃ e : Int, ∀ (s : V) (k' : KM), callK cls 11 45 [] (mm (pc + 1) a x y sp (pk n v bb d i z c) cyc 0 (.int 1) s m) k' = k' .none ((⟨pc + 1 + 2, a, x, y, sp, decide (128 ≤ (a - w) % 256), v, bb, d, i, decide (a = w), decide (w ≤ a), cyc, m⟩ : Y).m e (.int 1) s) := by
    cases hb : (bAnd (lo + hi * 256) 65280 != bAnd t 65280)
    · refine ⟨0, fun s k' => (r_0xdd).trans (bE h1 (bE h2.1 (bE (shl8 h2.2) ?_)))⟩
      rw [e1, hb]
      exact bE hv.1 (fl_CMP (fun q => k' .none (mm (pc + 1 + 2) a x y sp q cyc 0 (.int 1) s m)) hv.2 oa)
    · refine ⟨1, fun s k' => (r_0xdd).trans (bE h1 (bE h2.1 (bE (shl8 h2.2) ?_)))⟩
      rw [e1, hb]
      exact bE hv.1 (fl_CMP (fun q => k' .none (mm (pc + 1 + 2) a x y sp q cyc 1 (.int 1) s m)) hv.2 oa)
  obtain ⟨e, key⟩ := key
  exact ⟨_, stp_of (u := ⟨pc, a, x, y, sp, n, v, bb, d, i, z, c, cyc, m⟩) (u' := ⟨pc + 1 + 2, a, x, y, sp, decide (128 ≤ (a - w) % 256), v, bb, d, i, decide (a = w), decide (w ≤ a), cyc, m⟩) (xt := 1) (ct := 4) (e := e) (by kernel_rfl) h0 (by dsimp only; lia) (fun s k => key s k) (by dsimp only; lia)⟩
end
noncomputable def Mth (j : Nat) (u u' : Y) : Prop := ∀ e ad s, ∃ w e' ad', callM cls deep j [] (u.m e ad s) = some (w, u'.m e' ad' s)
theorem pk_push : ∀ n v bb d i z c, bAnd (bOr (bAnd (pk n v bb d i z c) (bNot 16)) 32) 255 = pk n v false d i z c := by decide +kernel
theorem pk_shut : ∀ n v bb d i z c, bOr (bAnd (pk n v bb d i z c) (bNot 16)) 4 = pk n v false d true z c := by decide +kernel
section
variable {pc a x y sp cyc : Int} {n v bb d i z c : Bool} {m : List Int}
theorem intr {γ : Type} {w1 w2 w3 lo hi t : Int} {m' : List Int} {q : Int} {K : Int → Int → Int → List Int → Option γ} (os : Oct sp) (g1 : at? m (sp + 256) = some w1) (g2 : at? m ((sp - 1) % 256 + 256) = some w2) (g3 : at? m ((sp - 2) % 256 + 256) = some w3)
    (hm : m' = ((m.set (sp + 256).toNat (pc / 256)).set ((sp - 1) % 256 + 256).toNat (pc % 256)).set ((sp - 2) % 256 + 256).toNat (pk n v false d i z c)) (h1 : at? m' q = some lo) (h2 : Oc m' (q + 1) hi) (ht : t = lo + hi * 256) (hp : 0 ≤ pc ∧ pc < 65536) :
    ((putAt m (sp + 256) (bAnd (bAnd (pc.fdiv 256) 255) 255)).bind fun m1 => (putAt m1 ((bAnd (sp - 1) 255) + 256) (bAnd (bAnd pc 255) 255)).bind fun m2 => (putAt m2 ((bAnd ((bAnd (sp - 1) 255) - 1) 255) + 256) (bAnd (bOr (bAnd (pk n v bb d i z c) (bNot 16)) 32) 255)).bind fun m3 => (at? m3 q).bind fun v4 => (at? m3 (q + 1)).bind fun v5 => (BOp.ev .shl v5 8).bind fun w6 => K (v4 + w6) (bAnd ((bAnd ((bAnd (sp - 1) 255) - 1) 255) - 1) 255) (bOr (bAnd (pk n v bb d i z c) (bNot 16)) 4) m3)
      = K t ((sp - 3) % 256) (pk n v false d true z c) m' := by
  have q2 : pc.fdiv 256 = pc / 256 := Int.fdiv_eq_ediv_of_nonneg _ (by lia)
  have q3 : bAnd (pc / 256) 255 = pc / 256 := oct_self ⟨by lia, by lia⟩
  have q4 : bAnd pc 255 = pc % 256 := and_255 hp.1
  have q5 : bAnd (pc % 256) 255 = pc % 256 := oct_self (oct_mod _)
  have q6 : bAnd (sp - 1) 255 = (sp - 1) % 256 := oct_dec os
  have q7 : bAnd ((sp - 1) % 256 - 1) 255 = (sp - 2) % 256 := (oct_dec (oct_mod _)).trans (by lia)
  have q8 : bAnd ((sp - 2) % 256 - 1) 255 = (sp - 3) % 256 := (oct_dec (oct_mod _)).trans (by lia)
  obtain ⟨o1, o2⟩ := os
  have n1 : (sp + 256).toNat ≠ ((sp - 1) % 256 + 256).toNat := by lia
  have n2 : (sp + 256).toNat ≠ ((sp - 2) % 256 + 256).toNat := by lia
  have n3 : ((sp - 1) % 256 + 256).toNat ≠ ((sp - 2) % 256 + 256).toNat := by lia
  have f2 : at? (m.set (sp + 256).toNat (pc / 256)) ((sp - 1) % 256 + 256) = some w2 := by
    unfold at? at g2 ⊢
    rw [List.getElem?_set_ne n1]; exact g2
  have f3 : at? ((m.set (sp + 256).toNat (pc / 256)).set ((sp - 1) % 256 + 256).toNat (pc % 256)) ((sp - 2) % 256 + 256) = some w3 := by
    unfold at? at g3 ⊢
    rw [List.getElem?_set_ne n3, List.getElem?_set_ne n2]; exact g3
  rw [q2, q3, q3, q4, q5, q6, q7, q8, pk_push, pk_shut]
  subst hm
  exact bE (put_at g1 _) (bE (put_at f2 _) (bE (put_at f3 _) (bE h1 (bE h2.1 (bE (shl8 h2.2) (ht ▸ rfl))))))
theorem s_nmi {w1 w2 w3 lo hi t : Int} {m' : List Int} (os : Oct sp) (g1 : at? m (sp + 256) = some w1) (g2 : at? m ((sp - 1) % 256 + 256) = some w2) (g3 : at? m ((sp - 2) % 256 + 256) = some w3)
    (hm : m' = ((m.set (sp + 256).toNat (pc / 256)).set ((sp - 1) % 256 + 256).toNat (pc % 256)).set ((sp - 2) % 256 + 256).toNat (pk n v false d i z c)) (h1 : at? m' 65530 = some lo) (h2 : Oc m' (65530 + 1) hi) (ht : t = lo + hi * 256) (hp : 0 ≤ pc ∧ pc < 65536) :
    Mth i_nmi ⟨pc, a, x, y, sp, n, v, bb, d, i, z, c, cyc, m⟩ ⟨t, a, x, y, (sp - 3) % 256, n, v, false, d, true, z, c, cyc + 7, m'⟩ := fun e ad s =>
  ⟨.none, e, ad, callM_of (r_nmi.trans (intr (K := fun t q p m => some (V.none, mm t a x y q p (cyc + 7) e ad s m)) os g1 g2 g3 hm h1 h2 ht hp))⟩
theorem s_irq {w1 w2 w3 lo hi t : Int} {m' : List Int} (os : Oct sp) (g1 : at? m (sp + 256) = some w1) (g2 : at? m ((sp - 1) % 256 + 256) = some w2) (g3 : at? m ((sp - 2) % 256 + 256) = some w3)
    (hm : m' = ((m.set (sp + 256).toNat (pc / 256)).set ((sp - 1) % 256 + 256).toNat (pc % 256)).set ((sp - 2) % 256 + 256).toNat (pk n v false d false z c)) (h1 : at? m' 65534 = some lo) (h2 : Oc m' (65534 + 1) hi) (ht : t = lo + hi * 256) (hp : 0 ≤ pc ∧ pc < 65536) :
    Mth i_irq ⟨pc, a, x, y, sp, n, v, bb, d, false, z, c, cyc, m⟩ ⟨t, a, x, y, (sp - 3) % 256, n, v, false, d, true, z, c, cyc + 7, m'⟩ := fun e ad s =>
  ⟨.none, e, ad, callM_of (r_irq.trans ((congrArg (fun b => cond b _ _) i_on).trans (intr (K := fun t q p m => some (V.none, mm t a x y q p (cyc + 7) e ad s m)) os g1 g2 g3 hm h1 h2 ht hp)))⟩
theorem s_irq_no : Mth i_irq ⟨pc, a, x, y, sp, n, v, bb, d, true, z, c, cyc, m⟩ ⟨pc, a, x, y, sp, n, v, bb, d, true, z, c, cyc, m⟩ := fun e ad s =>
  ⟨.none, e, ad, callM_of (r_irq.trans (congrArg (fun b => cond b _ _) i_on))⟩
end
end Mine

end
section
open PySem PySem.W PyProof.Rows
set_option maxRecDepth 100000
set_option maxHeartbeats 0
set_option linter.unusedSimpArgs false
set_option linter.unusedVariables false
namespace Mine
noncomputable def T (g : Nat → Int) : List Int := (List.range 65536).map g
noncomputable def upd (g : Nat → Int) (i : Nat) (x : Int) : Nat → Int := fun j => if j = i then x else g j
theorem T_len {g : Nat → Int} : (T g).length = 65536 := by unfold T; rw [List.length_map, List.length_range]
theorem T_get {g : Nat → Int} {k : Nat} (h : k < 65536) : (T g)[k]? = some (g k) := by
  unfold T; rw [List.getElem?_map, List.getElem?_range h]; rfl
theorem at_T {g : Nat → Int} {k : Int} {v : Int} (h0 : 0 ≤ k) (h1 : k < 65536) (hv : g k.toNat = v) : at? (T g) k = some v := by
  unfold at?; rw [if_pos h0, T_get (by lia), hv]
theorem at_N {g : Nat → Int} {k : Nat} {v : Int} (h1 : k < 65536) (hv : g k = v) : at? (T g) (k : Int) = some v := at_T (Int.natCast_nonneg _) (by lia) (by rw [Int.toNat_natCast, hv])
theorem set_T {g : Nat → Int} {i : Nat} {x : Int} : (T g).set i x = T (upd g i x) := by
  apply List.ext_getElem?
  intro k
  rw [List.getElem?_set]
  by_cases h : k < 65536
  · rw [T_get h, T_get h, T_len]
    unfold upd
    by_cases e : i = k
    · subst e; rw [if_pos rfl, if_pos h, if_pos rfl]
    · rw [if_neg e, if_neg (Ne.symm e)]
  · have : ∀ g, (T g)[k]? = none := fun g => List.getElem?_eq_none (by rw [T_len]; lia)
    rw [this, this]
    split
    · rw [if_neg (by rw [T_len]; lia)]
    · rfl
theorem upd_ne {g : Nat → Int} {i j : Nat} {x : Int} (h : j ≠ i) : upd g i x j = g j := if_neg h
theorem upd_eq {g : Nat → Int} {i : Nat} {x : Int} : upd g i x i = x := if_pos rfl
theorem oct_lit {w : Int} (h : (decide (0 ≤ w) && decide (w < 256)) = true) : Oct w := ⟨of_decide_eq_true (Bool.and_eq_true_iff.mp h).1, of_decide_eq_true (Bool.and_eq_true_iff.mp h).2⟩
theorem oct_n {k : Nat} (h : k < 256) : Oct (k : Int) := ⟨Int.natCast_nonneg _, by lia⟩
noncomputable def C01 (cnt : Int) : List Int := [166, 17, 228, 16, 240, 250, 189, 0, 6, 232, 72, 138, 41, 7, 133, 17, 104, 166, 18, 224, 0, 240, 17, 221, 255, 6, 176, 12, 168, 189, 255, 6, 157, 0, 7, 152, 202, 76, 19, 2, 157, 0, 7, 230, 18, 165, 18, 201, cnt, 208, 205]
noncomputable def Hd01 : List Int := [72, 138, 72, 166, 16, 173, 0, 208, 157, 0, 6, 232, 138, 41, 7, 133, 16, 104, 170, 104, 64]
noncomputable def wr (g : Nat → Int) (b : Nat) (P : List Int) (i : Nat) : Nat → Int := fun k => if b ≤ k ∧ k < b + i then P.getD (k - b) 0 else g k
theorem wr_0 {g : Nat → Int} {b : Nat} {P : List Int} : wr g b P 0 = g := by
  funext k; unfold wr; rw [if_neg (by lia)]
theorem wr_succ {g : Nat → Int} {b i : Nat} {P : List Int} : upd (wr g b P i) (b + i) (P.getD i 0) = wr g b P (i + 1) := by
  funext k; unfold wr upd
  by_cases e : k = b + i
  · subst e; rw [if_pos rfl, if_pos (by lia), Nat.add_sub_cancel_left]
  · rw [if_neg e]
    dsimp only
    by_cases q : b ≤ k ∧ k < b + i
    · rw [if_pos q, if_pos (by lia)]
    · rw [if_neg q, if_neg (by lia)]
noncomputable abbrev g00 : Nat → Int := fun _ => 0
noncomputable def g0 (cnt : Int) : Nat → Int := upd (upd (wr (wr g00 512 (C01 cnt) 51) 49152 Hd01 21) 65531 192) 65535 192
theorem g0_at {cnt : Int} {k : Nat} (h : k < 512 ∨ 563 ≤ k ∧ k < 49152 ∨ 49173 ≤ k ∧ k < 65531) : g0 cnt k = 0 := by
  unfold g0 upd wr g00
  rw [if_neg (by lia), if_neg (by lia), if_neg (by lia), if_neg (by lia)]
noncomputable def codeL (cnt : Int) : List (Nat × Int) := (List.range 51).map (fun i => (512 + i, (C01 cnt).getD i 0)) ++ (List.range 21).map (fun i => (49152 + i, Hd01.getD i 0)) ++ [(65530, 0), (65531, 192), (65534, 0), (65535, 192)]
theorem g0_code (cnt : Int) : ∀ p ∈ codeL cnt, g0 cnt p.1 = p.2 ∧ (512 ≤ p.1 ∧ p.1 < 563 ∨ 49152 ≤ p.1 ∧ p.1 < 49173 ∨ 65530 ≤ p.1 ∧ p.1 < 65536) := by
  have h : (codeL cnt).map (fun p => g0 cnt p.1) = (codeL cnt).map (·.2) := by kernel_rfl
  have b : ((codeL cnt).map (·.1)).all (fun k => (Nat.ble 512 k && Nat.blt k 563) || (Nat.ble 49152 k && Nat.blt k 49173) || (Nat.ble 65530 k && Nat.blt k 65536)) = true := by kernel_rfl
  intro p hp
  refine ⟨List.map_inj_left.mp h p hp, ?_⟩
  have := List.all_eq_true.mp b _ (List.mem_map_of_mem hp)
  simp only [Bool.or_eq_true, Bool.and_eq_true, Nat.ble_eq, Nat.blt_eq] at this
  lia
noncomputable def Mk (cnt t h s dev : Int) (rg rw : Nat → Int) : Nat → Int := fun k => if k = 16 then t else if k = 17 then h else if k = 18 then s else if k = 53248 then dev else if 1536 ≤ k ∧ k < 1544 then rg (k - 1536) else if 1792 ≤ k ∧ k < 1800 then rw (k - 1792) else g0 cnt k
noncomputable def Mem (cnt t h s dev : Int) (rg rw : Nat → Int) (g : Nat → Int) : Prop := ∀ k, k < 256 ∨ 512 ≤ k → g k = Mk cnt t h s dev rg rw k
section
variable {cnt t h s dev v : Int} {rg rw : Nat → Int} {g : Nat → Int}
theorem Mem.stk (m : Mem cnt t h s dev rg rw g) {k : Nat} (hk : 256 ≤ k ∧ k < 512) : Mem cnt t h s dev rg rw (upd g k v) := fun j hj => (upd_ne (by lia)).trans (m j hj)
theorem Mem.s16 (m : Mem cnt t h s dev rg rw g) : Mem cnt v h s dev rg rw (upd g 16 v) := fun j hj => by
  by_cases e : j = 16
  · subst e; exact upd_eq
  · rw [upd_ne e, m j hj]; unfold Mk; rw [if_neg e, if_neg e]
theorem Mem.s17 (m : Mem cnt t h s dev rg rw g) : Mem cnt t v s dev rg rw (upd g 17 v) := fun j hj => by
  by_cases e : j = 17
  · subst e; exact upd_eq
  · rw [upd_ne e, m j hj]; unfold Mk; rw [if_neg e, if_neg e]
theorem Mem.s18 (m : Mem cnt t h s dev rg rw g) : Mem cnt t h v dev rg rw (upd g 18 v) := fun j hj => by
  by_cases e : j = 18
  · subst e; exact upd_eq
  · rw [upd_ne e, m j hj]; unfold Mk; rw [if_neg e, if_neg e]
theorem Mem.sdev (m : Mem cnt t h s dev rg rw g) : Mem cnt t h s v rg rw (upd g 53248 v) := fun j hj => by
  by_cases e : j = 53248
  · subst e; exact upd_eq
  · rw [upd_ne e, m j hj]; unfold Mk; rw [if_neg e, if_neg e]
theorem Mem.sring (m : Mem cnt t h s dev rg rw g) {i : Nat} (hi : i < 8) : Mem cnt t h s dev (upd rg i v) rw (upd g (1536 + i) v) := fun j hj => by
  by_cases e : j = 1536 + i
  · subst e
    rw [upd_eq]; unfold Mk
    rw [if_neg (by lia), if_neg (by lia), if_neg (by lia), if_neg (by lia), if_pos (by lia), Nat.add_sub_cancel_left, upd_eq]
  · rw [upd_ne e, m j hj]; unfold Mk
    by_cases q : 1536 ≤ j ∧ j < 1544
    · rw [if_pos q, if_pos q, upd_ne (show j - 1536 ≠ i by lia)]
    · rw [if_neg q, if_neg q]
theorem Mem.srow (m : Mem cnt t h s dev rg rw g) {i : Nat} (hi : i < 8) : Mem cnt t h s dev rg (upd rw i v) (upd g (1792 + i) v) := fun j hj => by
  by_cases e : j = 1792 + i
  · subst e
    rw [upd_eq]; unfold Mk
    rw [if_neg (by lia), if_neg (by lia), if_neg (by lia), if_neg (by lia), if_neg (by lia), if_pos (by lia), Nat.add_sub_cancel_left, upd_eq]
  · rw [upd_ne e, m j hj]; unfold Mk
    by_cases q : 1792 ≤ j ∧ j < 1800
    · rw [if_pos q, if_pos q, upd_ne (show j - 1792 ≠ i by lia)]
    · rw [if_neg q, if_neg q]
theorem Mem.r16 (m : Mem cnt t h s dev rg rw g) : g 16 = t := m 16 (by decide)
theorem Mem.r17 (m : Mem cnt t h s dev rg rw g) : g 17 = h := m 17 (by decide)
theorem Mem.r18 (m : Mem cnt t h s dev rg rw g) : g 18 = s := m 18 (by decide)
theorem Mem.rdev (m : Mem cnt t h s dev rg rw g) : g 53248 = dev := m 53248 (by decide)
theorem Mem.rring (m : Mem cnt t h s dev rg rw g) {i : Nat} (hi : i < 8) : g (1536 + i) = rg i := by
  rw [m _ (by lia)]; unfold Mk
  rw [if_neg (by lia), if_neg (by lia), if_neg (by lia), if_neg (by lia), if_pos (by lia), Nat.add_sub_cancel_left]
theorem Mem.rrow (m : Mem cnt t h s dev rg rw g) {i : Nat} (hi : i < 8) : g (1792 + i) = rw i := by
  rw [m _ (by lia)]; unfold Mk
  rw [if_neg (by lia), if_neg (by lia), if_neg (by lia), if_neg (by lia), if_neg (by lia), if_pos (by lia), Nat.add_sub_cancel_left]
theorem Mem.code (m : Mem cnt t h s dev rg rw g) (i : Nat) {p : Nat × Int} {k w : Int} (hp : (codeL cnt)[i]? = some p) (hk : k = (p.1 : Int)) (hv : p.2 = w) : at? (T g) k = some w := by
  obtain ⟨e, b⟩ := g0_code cnt p (List.mem_of_getElem? hp)
  subst hk hv
  refine at_N (by lia) ?_
  rw [m _ (by lia)]; unfold Mk
  rw [if_neg (by lia), if_neg (by lia), if_neg (by lia), if_neg (by lia), if_neg (by lia), if_neg (by lia), e]
end
end Mine

end
section
open PySem PySem.W PyProof.Rows
set_option maxRecDepth 100000
set_option maxHeartbeats 0
set_option linter.unusedSimpArgs false
set_option linter.unusedVariables false
set_option linter.unusedSectionVars false
namespace Mine
structure Rg where
  pc : Int
  a : Int
  x : Int
  y : Int
  sp : Int
  z : Bool
  c : Bool
  k : Int
  h : Nat
  s : Nat
  rw : Nat → Int
noncomputable def Yo (r : Rg) (n v : Bool) (cyc : Int) (g : Nat → Int) : Y := ⟨r.pc, r.a, r.x, r.y, r.sp, n, v, true, false, false, r.z, r.c, cyc, T g⟩
noncomputable def rgT (o : Nat → Int) (t : Nat) : Nat → Int := fun j => if j < t then o j else 0
structure Cn (cnt : Nat) (o : Nat → Int) (t : Nat) (dev : Int) (r : Rg) (g : Nat → Int) : Prop where
  mem : Mem cnt t r.h r.s dev (rgT o t) r.rw g
  stk : r.sp = 254 → g 511 = r.k
  oa : Oct r.a
  ox : Oct r.x
  oy : Oct r.y
noncomputable def Full (rw : Nat → Int) (L : List Int) : Prop := ∀ i, rw i = L.getD i 0
noncomputable def Gap (rw : Nat → Int) (A B : List Int) : Prop := ∀ i, i ≠ A.length → rw i = (A ++ 0 :: B).getD i 0
noncomputable def tk (o : Nat → Int) (s : Nat) : List Int := (List.range s).map o
noncomputable def Srt (o : Nat → Int) (s : Nat) (L : List Int) : Prop := L.Perm (tk o s) ∧ L.Pairwise (· ≤ ·)
theorem Srt.len {o : Nat → Int} {s : Nat} {L : List Int} (h : Srt o s L) : L.length = s := by
  rw [h.1.length_eq]; unfold tk; rw [List.length_map, List.length_range]
theorem Srt.mem {o : Nat → Int} {s : Nat} {L : List Int} (h : Srt o s L) {v : Int} (hv : v ∈ L) : ∃ j, v = o j := by
  obtain ⟨j, _, e⟩ := List.mem_map.mp (h.1.mem_iff.mp hv)
  exact ⟨j, e.symm⟩
structure PW (cnt : Nat) (o : Nat → Int) (t s : Nat) (rw : Nat → Int) (L : List Int) : Prop where
  hs : s < cnt
  ht : s ≤ t
  full : Full rw L
  srt : Srt o s L
structure PI (cnt : Nat) (o : Nat → Int) (t s : Nat) (rw : Nat → Int) (A B : List Int) : Prop where
  hs : s < cnt
  ht : s + 1 ≤ t
  gap : Gap rw A B
  srt : Srt o s (A ++ B)
  gt : ∀ b ∈ B, o s < b
structure PF (cnt : Nat) (o : Nat → Int) (t s : Nat) (rw : Nat → Int) (L : List Int) : Prop where
  hs : s ≤ cnt
  ht : s ≤ t
  full : Full rw L
  srt : Srt o s L
theorem PI.len {cnt : Nat} {o : Nat → Int} {t s : Nat} {rw : Nat → Int} {A B : List Int} (p : PI cnt o t s rw A B) : A.length + B.length = s := by rw [← List.length_append]; exact p.srt.len
inductive Pl (cnt : Nat) (o : Nat → Int) (t : Nat) : Nat → Rg → Prop
  | p512 {a x y k : Int} {z c : Bool} {s : Nat} {rw : Nat → Int} {L : List Int} (w : PW cnt o t s rw L) : Pl cnt o t ((cnt - s - 1) * 64 + 62) ⟨512, a, x, y, 255, z, c, k, s, s, rw⟩
  | p514 {a y k : Int} {z c : Bool} {s : Nat} {rw : Nat → Int} {L : List Int} (w : PW cnt o t s rw L) : Pl cnt o t ((cnt - s - 1) * 64 + 61) ⟨514, a, (s : Int), y, 255, z, c, k, s, s, rw⟩
  | p516z {a y k : Int} {c : Bool} {s : Nat} {rw : Nat → Int} {L : List Int} (w : PW cnt o t s rw L) : Pl cnt o t ((cnt - s - 1) * 64 + 63) ⟨516, a, (s : Int), y, 255, true, c, k, s, s, rw⟩
  | p516n {a y k : Int} {c : Bool} {s : Nat} {rw : Nat → Int} {L : List Int} (w : PW cnt o t s rw L) (h : s < t) : Pl cnt o t ((cnt - s - 1) * 64 + 60) ⟨516, a, (s : Int), y, 255, false, c, k, s, s, rw⟩
  | p518 {a y k : Int} {z c : Bool} {s : Nat} {rw : Nat → Int} {L : List Int} (w : PW cnt o t s rw L) (h : s < t) : Pl cnt o t ((cnt - s - 1) * 64 + 59) ⟨518, a, (s : Int), y, 255, z, c, k, s, s, rw⟩
  | p521 {y k : Int} {z c : Bool} {s : Nat} {rw : Nat → Int} {L : List Int} (w : PW cnt o t s rw L) (h : s < t) : Pl cnt o t ((cnt - s - 1) * 64 + 58) ⟨521, o s, (s : Int), y, 255, z, c, k, s, s, rw⟩
  | p522 {y k : Int} {z c : Bool} {s : Nat} {rw : Nat → Int} {L : List Int} (w : PW cnt o t s rw L) (h : s < t) : Pl cnt o t ((cnt - s - 1) * 64 + 57) ⟨522, o s, ((s + 1 : Nat) : Int), y, 255, z, c, k, s, s, rw⟩
  | p523 {y : Int} {z c : Bool} {s : Nat} {rw : Nat → Int} {L : List Int} (w : PW cnt o t s rw L) (h : s < t) : Pl cnt o t ((cnt - s - 1) * 64 + 56) ⟨523, o s, ((s + 1 : Nat) : Int), y, 254, z, c, o s, s, s, rw⟩
  | p524 {x y : Int} {z c : Bool} {s : Nat} {rw : Nat → Int} {L : List Int} (w : PW cnt o t s rw L) (h : s < t) : Pl cnt o t ((cnt - s - 1) * 64 + 55) ⟨524, ((s + 1 : Nat) : Int), x, y, 254, z, c, o s, s, s, rw⟩
  | p526 {x y : Int} {z c : Bool} {s : Nat} {rw : Nat → Int} {L : List Int} (w : PW cnt o t s rw L) (h : s < t) : Pl cnt o t ((cnt - s - 1) * 64 + 54) ⟨526, ((s + 1 : Nat) : Int), x, y, 254, z, c, o s, s, s, rw⟩
  | p528 {a x y : Int} {z c : Bool} {s : Nat} {rw : Nat → Int} {L : List Int} (w : PW cnt o t s rw L) (h : s < t) : Pl cnt o t ((cnt - s - 1) * 64 + 53) ⟨528, a, x, y, 254, z, c, o s, s + 1, s, rw⟩
  | p529 {x y k : Int} {z c : Bool} {s : Nat} {rw : Nat → Int} {L : List Int} (w : PW cnt o t s rw L) (h : s < t) : Pl cnt o t ((cnt - s - 1) * 64 + 52) ⟨529, o s, x, y, 255, z, c, k, s + 1, s, rw⟩
  | p531 {y k : Int} {z c : Bool} {s : Nat} {rw : Nat → Int} {A B : List Int} (w : PI cnt o t s rw A B) : Pl cnt o t ((cnt - s - 1) * 64 + 10 * A.length + 10) ⟨531, o s, (A.length : Int), y, 255, z, c, k, s + 1, s, rw⟩
  | p533 {y k : Int} {c : Bool} {s : Nat} {rw : Nat → Int} {A B : List Int} (w : PI cnt o t s rw A B) : Pl cnt o t ((cnt - s - 1) * 64 + 10 * A.length + 9) ⟨533, o s, (A.length : Int), y, 255, decide ((A.length : Int) = 0), c, k, s + 1, s, rw⟩
  | p535 {y k u : Int} {z c : Bool} {s : Nat} {rw : Nat → Int} {A B : List Int} (w : PI cnt o t s rw (A ++ [u]) B) : Pl cnt o t ((cnt - s - 1) * 64 + 10 * A.length + 18) ⟨535, o s, ((A.length + 1 : Nat) : Int), y, 255, z, c, k, s + 1, s, rw⟩
  | p538 {y k u : Int} {z : Bool} {s : Nat} {rw : Nat → Int} {A B : List Int} (w : PI cnt o t s rw (A ++ [u]) B) : Pl cnt o t ((cnt - s - 1) * 64 + 10 * A.length + 17) ⟨538, o s, ((A.length + 1 : Nat) : Int), y, 255, z, decide (u ≤ o s), k, s + 1, s, rw⟩
  | p540 {y k u : Int} {z c : Bool} {s : Nat} {rw : Nat → Int} {A B : List Int} (w : PI cnt o t s rw (A ++ [u]) B) (h : o s < u) : Pl cnt o t ((cnt - s - 1) * 64 + 10 * A.length + 16) ⟨540, o s, ((A.length + 1 : Nat) : Int), y, 255, z, c, k, s + 1, s, rw⟩
  | p541 {a k u : Int} {z c : Bool} {s : Nat} {rw : Nat → Int} {A B : List Int} (w : PI cnt o t s rw (A ++ [u]) B) (h : o s < u) : Pl cnt o t ((cnt - s - 1) * 64 + 10 * A.length + 15) ⟨541, a, ((A.length + 1 : Nat) : Int), o s, 255, z, c, k, s + 1, s, rw⟩
  | p544 {k u : Int} {z c : Bool} {s : Nat} {rw : Nat → Int} {A B : List Int} (w : PI cnt o t s rw (A ++ [u]) B) (h : o s < u) : Pl cnt o t ((cnt - s - 1) * 64 + 10 * A.length + 14) ⟨544, u, ((A.length + 1 : Nat) : Int), o s, 255, z, c, k, s + 1, s, rw⟩
  | p547 {a k : Int} {z c : Bool} {s : Nat} {rw : Nat → Int} {A B : List Int} (w : PI cnt o t s rw A B) : Pl cnt o t ((cnt - s - 1) * 64 + 10 * A.length + 13) ⟨547, a, ((A.length + 1 : Nat) : Int), o s, 255, z, c, k, s + 1, s, rw⟩
  | p548 {y k : Int} {z c : Bool} {s : Nat} {rw : Nat → Int} {A B : List Int} (w : PI cnt o t s rw A B) : Pl cnt o t ((cnt - s - 1) * 64 + 10 * A.length + 12) ⟨548, o s, ((A.length + 1 : Nat) : Int), y, 255, z, c, k, s + 1, s, rw⟩
  | p549 {y k : Int} {z c : Bool} {s : Nat} {rw : Nat → Int} {A B : List Int} (w : PI cnt o t s rw A B) : Pl cnt o t ((cnt - s - 1) * 64 + 10 * A.length + 11) ⟨549, o s, (A.length : Int), y, 255, z, c, k, s + 1, s, rw⟩
  | p552 {y k : Int} {z c : Bool} {s : Nat} {rw : Nat → Int} {A B : List Int} (w : PI cnt o t s rw A B) (h : ∀ a ∈ A, a ≤ o s) : Pl cnt o t ((cnt - s - 1) * 64 + 5) ⟨552, o s, (A.length : Int), y, 255, z, c, k, s + 1, s, rw⟩
  | p555 {a x y k : Int} {z c : Bool} {s : Nat} {rw : Nat → Int} {L : List Int} (w : PF cnt o t (s + 1) rw L) : Pl cnt o t ((cnt - s - 1) * 64 + 4) ⟨555, a, x, y, 255, z, c, k, s + 1, s, rw⟩
  | p557 {a x y k : Int} {z c : Bool} {s : Nat} {rw : Nat → Int} {L : List Int} (w : PF cnt o t s rw L) : Pl cnt o t ((cnt - s) * 64 + 3) ⟨557, a, x, y, 255, z, c, k, s, s, rw⟩
  | p559 {x y k : Int} {z c : Bool} {s : Nat} {rw : Nat → Int} {L : List Int} (w : PF cnt o t s rw L) : Pl cnt o t ((cnt - s) * 64 + 2) ⟨559, (s : Int), x, y, 255, z, c, k, s, s, rw⟩
  | p561 {x y k : Int} {s : Nat} {rw : Nat → Int} {L : List Int} (w : PF cnt o t s rw L) : Pl cnt o t ((cnt - s) * 64 + 1) ⟨561, (s : Int), x, y, 255, decide ((s : Int) = (cnt : Int)), decide ((cnt : Int) ≤ (s : Int)), k, s, s, rw⟩
  | p563 {x y k : Int} {rw : Nat → Int} {L : List Int} (w : PF cnt o t cnt rw L) : Pl cnt o t 0 ⟨563, (cnt : Int), x, y, 255, true, true, k, cnt, cnt, rw⟩
noncomputable def Nx (cnt : Nat) (o : Nat → Int) (t : Nat) (dev : Int) (rk : Nat) (u : Y) : Prop := ∃ r' n' v' cyc' g' rk', Stp u (Yo r' n' v' cyc' g') ∧ Pl cnt o t rk' r' ∧ Cn cnt o t dev r' g' ∧ (rk' < rk ∨ (rk' = rk + 2 ∧ t < cnt))
theorem nx_of {cnt : Nat} {o : Nat → Int} {t : Nat} {dev : Int} {rk : Nat} {u : Y} {r' : Rg} {n' v' : Bool} {cyc' : Int} {g' : Nat → Int} {rk' : Nat} (h1 : Stp u (Yo r' n' v' cyc' g')) (h2 : Pl cnt o t rk' r') (h3 : Cn cnt o t dev r' g') (h4 : rk' < rk ∨ (rk' = rk + 2 ∧ t < cnt)) : Nx cnt o t dev rk u := ⟨r', n', v', cyc', g', rk', h1, h2, h3, h4⟩
theorem rk_lt {X a b : Nat} (h : Nat.blt a b = true) : X + a < X + b := Nat.add_lt_add_left (Nat.ble_eq.mp h) _
theorem and_7 : ∀ k : Nat, k < 8 → bAnd (k : Int) 7 = (k : Int) := by decide +kernel
section
variable {cnt t s : Nat} {o : Nat → Int} {dev cyc a x y k u : Int} {n v z c : Bool} {rw g : Nat → Int} {L A B : List Int} (hc : 2 ≤ cnt ∧ cnt ≤ 5) (oo : ∀ i, Oct (o i)) (htc : t ≤ cnt)
theorem no254 {p : Prop} : (255 : Int) = 254 → p := fun h => absurd h (by decide)
include hc oo htc in
theorem st512 (w : PW cnt o t s rw L) (M : Cn cnt o t dev ⟨512, a, x, y, 255, z, c, k, s, s, rw⟩ g) : Nx cnt o t dev ((cnt - s - 1) * 64 + 62) (Yo ⟨512, a, x, y, 255, z, c, k, s, s, rw⟩ n v cyc g) := by
  have m : Mem cnt t (s : Nat) (s : Nat) dev (rgT o t) rw g := M.mem
  have := w.hs
  have os : Oct (s : Int) := oct_n (by lia)
  have st : Stp ⟨512, a, x, y, 255, n, v, true, false, false, z, c, cyc, T g⟩ ⟨514, a, (s : Int), y, 255, decide (128 ≤ (s : Int)), v, true, false, false, decide ((s : Int) = 0), c, cyc + (3 + 0), T g⟩ :=
    s_LDXz (k := 17) (w := (s : Int)) (m.code 0 (p := (512, 166)) (by kernel_rfl) rfl rfl) (m.code 1 (p := (513, 17)) (by kernel_rfl) rfl rfl) ⟨at_T (by decide) (by decide) m.r17, os⟩ (by decide)
  exact nx_of (r' := ⟨514, a, (s : Int), y, 255, _, c, k, s, s, rw⟩) st (.p514 w) ⟨m, no254, M.oa, os, M.oy⟩ (.inl (by first | exact rk_lt rfl | lia))
include hc oo htc in
theorem st514 (w : PW cnt o t s rw L) (M : Cn cnt o t dev ⟨514, a, (s : Int), y, 255, z, c, k, s, s, rw⟩ g) : Nx cnt o t dev ((cnt - s - 1) * 64 + 61) (Yo ⟨514, a, (s : Int), y, 255, z, c, k, s, s, rw⟩ n v cyc g) := by
  have m : Mem cnt t (s : Nat) (s : Nat) dev (rgT o t) rw g := M.mem
  have := w.hs
  have os : Oct (s : Int) := oct_n (by lia)
  have st0 := s_CPXz (pc := 514) (a := a) (x := (s : Int)) (y := y) (sp := 255) (cyc := cyc) (n := n) (v := v) (bb := true) (d := false) (i := false) (z := z) (c := c) (m := T g) (k := 16) (w := (t : Int)) (m.code 2 (p := (514, 228)) (by kernel_rfl) rfl rfl) (m.code 3 (p := (515, 16)) (by kernel_rfl) rfl rfl) ⟨at_T (by decide) (by decide) m.r16, oct_n (by lia)⟩ os (by decide)
  by_cases h : s < t
  · rw [decide_eq_false (show ¬ (s : Int) = (t : Int) by lia)] at st0
    exact nx_of (r' := ⟨516, a, (s : Int), y, 255, false, _, k, s, s, rw⟩) st0 (.p516n w h) ⟨m, no254, M.oa, os, M.oy⟩ (.inl (by first | exact rk_lt rfl | lia))
  · have := w.ht
    rw [decide_eq_true (show (s : Int) = (t : Int) by lia)] at st0
    exact nx_of (r' := ⟨516, a, (s : Int), y, 255, true, _, k, s, s, rw⟩) st0 (.p516z w) ⟨m, no254, M.oa, os, M.oy⟩ (.inr ⟨by lia, by lia⟩)
include hc oo htc in
theorem st516z (w : PW cnt o t s rw L) (M : Cn cnt o t dev ⟨516, a, (s : Int), y, 255, true, c, k, s, s, rw⟩ g) : Nx cnt o t dev ((cnt - s - 1) * 64 + 63) (Yo ⟨516, a, (s : Int), y, 255, true, c, k, s, s, rw⟩ n v cyc g) := by
  have m : Mem cnt t (s : Nat) (s : Nat) dev (rgT o t) rw g := M.mem
  have st : Stp ⟨516, a, (s : Int), y, 255, n, v, true, false, false, true, c, cyc, T g⟩ ⟨512, a, (s : Int), y, 255, n, v, true, false, false, true, c, cyc + (2 + 1), T g⟩ :=
    s_BEQ (b := 250) (t := 512) (m.code 4 (p := (516, 240)) (by kernel_rfl) rfl rfl) ⟨(m.code 5 (p := (517, 250)) (by kernel_rfl) rfl rfl), oct_lit (by decide)⟩ (by decide) (by decide) (by decide) (by decide)
  exact nx_of (r' := ⟨512, a, (s : Int), y, 255, true, c, k, s, s, rw⟩) st (.p512 w) ⟨m, no254, M.oa, M.ox, M.oy⟩ (.inl (by first | exact rk_lt rfl | lia))
include hc oo htc in
theorem st516n (w : PW cnt o t s rw L) (h : s < t) (M : Cn cnt o t dev ⟨516, a, (s : Int), y, 255, false, c, k, s, s, rw⟩ g) : Nx cnt o t dev ((cnt - s - 1) * 64 + 60) (Yo ⟨516, a, (s : Int), y, 255, false, c, k, s, s, rw⟩ n v cyc g) := by
  have m : Mem cnt t (s : Nat) (s : Nat) dev (rgT o t) rw g := M.mem
  have st : Stp ⟨516, a, (s : Int), y, 255, n, v, true, false, false, false, c, cyc, T g⟩ ⟨518, a, (s : Int), y, 255, n, v, true, false, false, false, c, cyc + (2 + 0), T g⟩ :=
    s_BEQ_no (m.code 4 (p := (516, 240)) (by kernel_rfl) rfl rfl) (by decide)
  exact nx_of (r' := ⟨518, a, (s : Int), y, 255, false, c, k, s, s, rw⟩) st (.p518 w h) ⟨m, no254, M.oa, M.ox, M.oy⟩ (.inl (by first | exact rk_lt rfl | lia))
include hc oo htc in
theorem st518 (w : PW cnt o t s rw L) (h : s < t) (M : Cn cnt o t dev ⟨518, a, (s : Int), y, 255, z, c, k, s, s, rw⟩ g) : Nx cnt o t dev ((cnt - s - 1) * 64 + 59) (Yo ⟨518, a, (s : Int), y, 255, z, c, k, s, s, rw⟩ n v cyc g) := by
  have m : Mem cnt t (s : Nat) (s : Nat) dev (rgT o t) rw g := M.mem
  have := w.hs
  have hg : g (1536 + s) = o s := (m.rring (by lia)).trans (if_pos h)
  obtain ⟨cyc', st⟩ := s_LDAax (pc := 518) (a := a) (x := (s : Int)) (y := y) (sp := 255) (cyc := cyc) (n := n) (v := v) (bb := true) (d := false) (i := false) (z := z) (c := c) (m := T g) (lo := 0) (hi := 6) (t := ((1536 + s : Nat) : Int)) (w := o s) (m.code 6 (p := (518, 189)) (by kernel_rfl) rfl rfl) (m.code 7 (p := (519, 0)) (by kernel_rfl) rfl rfl) ⟨(m.code 8 (p := (520, 6)) (by kernel_rfl) rfl rfl), oct_lit (by decide)⟩ (by lia) (by lia) ⟨at_N (by lia) hg, oo s⟩ (by decide)
  exact nx_of (r' := ⟨521, o s, (s : Int), y, 255, _, c, k, s, s, rw⟩) st (.p521 w h) ⟨m, no254, oo s, M.ox, M.oy⟩ (.inl (by first | exact rk_lt rfl | lia))
include hc oo htc in
theorem st521 (w : PW cnt o t s rw L) (h : s < t) (M : Cn cnt o t dev ⟨521, o s, (s : Int), y, 255, z, c, k, s, s, rw⟩ g) : Nx cnt o t dev ((cnt - s - 1) * 64 + 58) (Yo ⟨521, o s, (s : Int), y, 255, z, c, k, s, s, rw⟩ n v cyc g) := by
  have m : Mem cnt t (s : Nat) (s : Nat) dev (rgT o t) rw g := M.mem
  have := w.hs
  have os : Oct ((s + 1 : Nat) : Int) := oct_n (by lia)
  have st0 := s_INX (pc := 521) (a := o s) (x := (s : Int)) (y := y) (sp := 255) (cyc := cyc) (n := n) (v := v) (bb := true) (d := false) (i := false) (z := z) (c := c) (m := T g) (m.code 9 (p := (521, 232)) (by kernel_rfl) rfl rfl) M.ox (by decide)
  rw [show ((s : Int) + 1) % 256 = ((s + 1 : Nat) : Int) by lia] at st0
  exact nx_of (r' := ⟨522, o s, ((s + 1 : Nat) : Int), y, 255, _, c, k, s, s, rw⟩) st0 (.p522 w h) ⟨m, no254, oo s, os, M.oy⟩ (.inl (by first | exact rk_lt rfl | lia))
include hc oo htc in
theorem st522 (w : PW cnt o t s rw L) (h : s < t) (M : Cn cnt o t dev ⟨522, o s, ((s + 1 : Nat) : Int), y, 255, z, c, k, s, s, rw⟩ g) : Nx cnt o t dev ((cnt - s - 1) * 64 + 57) (Yo ⟨522, o s, ((s + 1 : Nat) : Int), y, 255, z, c, k, s, s, rw⟩ n v cyc g) := by
  have m : Mem cnt t (s : Nat) (s : Nat) dev (rgT o t) rw g := M.mem
  have st0 := s_PHA (pc := 522) (a := o s) (x := ((s + 1 : Nat) : Int)) (y := y) (sp := 255) (cyc := cyc) (n := n) (v := v) (bb := true) (d := false) (i := false) (z := z) (c := c) (m := T g) (w := g 511) (m.code 10 (p := (522, 72)) (by kernel_rfl) rfl rfl) (oct_lit (by decide)) (oo s) (at_T (by decide) (by decide) rfl) (by decide)
  rw [set_T] at st0
  exact nx_of (r' := ⟨523, o s, ((s + 1 : Nat) : Int), y, 254, z, c, o s, s, s, rw⟩) st0 (.p523 w h) ⟨m.stk (by decide), fun _ => upd_eq, oo s, M.ox, M.oy⟩ (.inl (by first | exact rk_lt rfl | lia))
include hc oo htc in
theorem st523 (w : PW cnt o t s rw L) (h : s < t) (M : Cn cnt o t dev ⟨523, o s, ((s + 1 : Nat) : Int), y, 254, z, c, o s, s, s, rw⟩ g) : Nx cnt o t dev ((cnt - s - 1) * 64 + 56) (Yo ⟨523, o s, ((s + 1 : Nat) : Int), y, 254, z, c, o s, s, s, rw⟩ n v cyc g) := by
  have m : Mem cnt t (s : Nat) (s : Nat) dev (rgT o t) rw g := M.mem
  have st : Stp ⟨523, o s, ((s + 1 : Nat) : Int), y, 254, n, v, true, false, false, z, c, cyc, T g⟩ ⟨524, ((s + 1 : Nat) : Int), ((s + 1 : Nat) : Int), y, 254, decide (128 ≤ ((s + 1 : Nat) : Int)), v, true, false, false, decide (((s + 1 : Nat) : Int) = 0), c, cyc + (2 + 0), T g⟩ :=
    s_TXA (m.code 11 (p := (523, 138)) (by kernel_rfl) rfl rfl) M.ox (by decide)
  exact nx_of (r' := ⟨524, ((s + 1 : Nat) : Int), ((s + 1 : Nat) : Int), y, 254, _, c, o s, s, s, rw⟩) st (.p524 w h) ⟨m, M.stk, M.ox, M.ox, M.oy⟩ (.inl (by first | exact rk_lt rfl | lia))
include hc oo htc in
theorem st524 (w : PW cnt o t s rw L) (h : s < t) (M : Cn cnt o t dev ⟨524, ((s + 1 : Nat) : Int), x, y, 254, z, c, o s, s, s, rw⟩ g) : Nx cnt o t dev ((cnt - s - 1) * 64 + 55) (Yo ⟨524, ((s + 1 : Nat) : Int), x, y, 254, z, c, o s, s, s, rw⟩ n v cyc g) := by
  have m : Mem cnt t (s : Nat) (s : Nat) dev (rgT o t) rw g := M.mem
  have := w.hs
  have st : Stp ⟨524, ((s + 1 : Nat) : Int), x, y, 254, n, v, true, false, false, z, c, cyc, T g⟩ ⟨526, ((s + 1 : Nat) : Int), x, y, 254, decide (128 ≤ ((s + 1 : Nat) : Int)), v, true, false, false, decide (((s + 1 : Nat) : Int) = 0), c, cyc + (2 + 0), T g⟩ :=
    s_ANDi (w := 7) (r := ((s + 1 : Nat) : Int)) (m.code 12 (p := (524, 41)) (by kernel_rfl) rfl rfl) (m.code 13 (p := (525, 7)) (by kernel_rfl) rfl rfl) (and_7 _ (by lia)) M.oa (by decide)
  exact nx_of (r' := ⟨526, ((s + 1 : Nat) : Int), x, y, 254, _, c, o s, s, s, rw⟩) st (.p526 w h) ⟨m, M.stk, M.oa, M.ox, M.oy⟩ (.inl (by first | exact rk_lt rfl | lia))
include hc oo htc in
theorem st526 (w : PW cnt o t s rw L) (h : s < t) (M : Cn cnt o t dev ⟨526, ((s + 1 : Nat) : Int), x, y, 254, z, c, o s, s, s, rw⟩ g) : Nx cnt o t dev ((cnt - s - 1) * 64 + 54) (Yo ⟨526, ((s + 1 : Nat) : Int), x, y, 254, z, c, o s, s, s, rw⟩ n v cyc g) := by
  have m : Mem cnt t (s : Nat) (s : Nat) dev (rgT o t) rw g := M.mem
  have st0 := s_STAz (pc := 526) (a := ((s + 1 : Nat) : Int)) (x := x) (y := y) (sp := 254) (cyc := cyc) (n := n) (v := v) (bb := true) (d := false) (i := false) (z := z) (c := c) (m := T g) (k := 17) (w := g 17) (m.code 14 (p := (526, 133)) (by kernel_rfl) rfl rfl) (m.code 15 (p := (527, 17)) (by kernel_rfl) rfl rfl) (at_T (by decide) (by decide) rfl) (by decide)
  rw [set_T] at st0
  exact nx_of (r' := ⟨528, ((s + 1 : Nat) : Int), x, y, 254, z, c, o s, s + 1, s, rw⟩) st0 (.p528 w h) ⟨m.s17, fun e => (upd_ne (by decide)).trans (M.stk e), M.oa, M.ox, M.oy⟩ (.inl (by first | exact rk_lt rfl | lia))
include hc oo htc in
theorem st528 (w : PW cnt o t s rw L) (h : s < t) (M : Cn cnt o t dev ⟨528, a, x, y, 254, z, c, o s, s + 1, s, rw⟩ g) : Nx cnt o t dev ((cnt - s - 1) * 64 + 53) (Yo ⟨528, a, x, y, 254, z, c, o s, s + 1, s, rw⟩ n v cyc g) := by
  have m : Mem cnt t (s + 1 : Nat) (s : Nat) dev (rgT o t) rw g := M.mem
  have st : Stp ⟨528, a, x, y, 254, n, v, true, false, false, z, c, cyc, T g⟩ ⟨529, o s, x, y, 255, decide (128 ≤ o s), v, true, false, false, decide (o s = 0), c, cyc + (4 + 0), T g⟩ :=
    s_PLA (w := o s) (m.code 16 (p := (528, 104)) (by kernel_rfl) rfl rfl) (oct_lit (by decide)) ⟨at_T (by decide) (by decide) (M.stk rfl), oo s⟩ (by decide)
  exact nx_of (r' := ⟨529, o s, x, y, 255, _, c, 0, s + 1, s, rw⟩) st (.p529 w h) ⟨m, no254, oo s, M.ox, M.oy⟩ (.inl (by first | exact rk_lt rfl | lia))
include hc oo htc in
theorem st529 (w : PW cnt o t s rw L) (h : s < t) (M : Cn cnt o t dev ⟨529, o s, x, y, 255, z, c, k, s + 1, s, rw⟩ g) : Nx cnt o t dev ((cnt - s - 1) * 64 + 52) (Yo ⟨529, o s, x, y, 255, z, c, k, s + 1, s, rw⟩ n v cyc g) := by
  have m : Mem cnt t (s + 1 : Nat) (s : Nat) dev (rgT o t) rw g := M.mem
  have := w.hs
  have e := w.srt.len
  have os : Oct (L.length : Int) := oct_n (by lia)
  have st := s_LDXz (pc := 529) (a := o s) (x := x) (y := y) (sp := 255) (cyc := cyc) (n := n) (v := v) (bb := true) (d := false) (i := false) (z := z) (c := c) (m := T g) (k := 18) (w := (L.length : Int)) (m.code 17 (p := (529, 166)) (by kernel_rfl) rfl rfl) (m.code 18 (p := (530, 18)) (by kernel_rfl) rfl rfl) ⟨at_T (by decide) (by decide) (m.r18.trans (by rw [e])), os⟩ (by decide)
  have p : PI cnt o t s rw L [] := ⟨w.hs, h, fun i hi => by
    rw [w.full i]
    by_cases q : i < L.length
    · rw [List.getD_eq_getElem?_getD, List.getD_eq_getElem?_getD, List.getElem?_append_left q]
    · rw [List.getD_eq_getElem?_getD, List.getD_eq_getElem?_getD, List.getElem?_eq_none (by lia), List.getElem?_eq_none (by rw [List.length_append]; show L.length + 1 ≤ i; lia)], by rw [List.append_nil]; exact w.srt, fun b hb => nomatch hb⟩
  exact nx_of (r' := ⟨531, o s, (L.length : Int), y, 255, _, c, k, s + 1, s, rw⟩) st (.p531 p) ⟨m, no254, oo s, os, M.oy⟩ (.inl (by first | exact rk_lt rfl | lia))
include hc oo htc in
theorem st531 (w : PI cnt o t s rw A B) (M : Cn cnt o t dev ⟨531, o s, (A.length : Int), y, 255, z, c, k, s + 1, s, rw⟩ g) : Nx cnt o t dev ((cnt - s - 1) * 64 + 10 * A.length + 10) (Yo ⟨531, o s, (A.length : Int), y, 255, z, c, k, s + 1, s, rw⟩ n v cyc g) := by
  have m : Mem cnt t (s + 1 : Nat) (s : Nat) dev (rgT o t) rw g := M.mem
  have st : Stp ⟨531, o s, (A.length : Int), y, 255, n, v, true, false, false, z, c, cyc, T g⟩ ⟨533, o s, (A.length : Int), y, 255, decide (128 ≤ ((A.length : Int) - 0) % 256), v, true, false, false, decide ((A.length : Int) = 0), decide (0 ≤ (A.length : Int)), cyc + (2 + 0), T g⟩ :=
    s_CPXi (w := 0) (m.code 19 (p := (531, 224)) (by kernel_rfl) rfl rfl) ⟨(m.code 20 (p := (532, 0)) (by kernel_rfl) rfl rfl), oct_lit (by decide)⟩ M.ox (by decide)
  exact nx_of (r' := ⟨533, o s, (A.length : Int), y, 255, decide ((A.length : Int) = 0), _, k, s + 1, s, rw⟩) st (.p533 w) ⟨m, no254, oo s, M.ox, M.oy⟩ (.inl (by first | exact rk_lt rfl | lia))
include hc oo htc in
theorem st533 (w : PI cnt o t s rw A B) (M : Cn cnt o t dev ⟨533, o s, (A.length : Int), y, 255, decide ((A.length : Int) = 0), c, k, s + 1, s, rw⟩ g) : Nx cnt o t dev ((cnt - s - 1) * 64 + 10 * A.length + 9) (Yo ⟨533, o s, (A.length : Int), y, 255, decide ((A.length : Int) = 0), c, k, s + 1, s, rw⟩ n v cyc g) := by
  have m : Mem cnt t (s + 1 : Nat) (s : Nat) dev (rgT o t) rw g := M.mem
  by_cases h : (A.length : Int) = 0
  · have e : A = [] := List.eq_nil_of_length_eq_zero (by lia)
    have st : Stp ⟨533, o s, (A.length : Int), y, 255, n, v, true, false, false, decide ((A.length : Int) = 0), c, cyc, T g⟩ ⟨552, o s, (A.length : Int), y, 255, n, v, true, false, false, true, c, cyc + (2 + 1), T g⟩ := by
      rw [decide_eq_true h]
      exact s_BEQ (b := 17) (t := 552) (m.code 21 (p := (533, 240)) (by kernel_rfl) rfl rfl) ⟨(m.code 22 (p := (534, 17)) (by kernel_rfl) rfl rfl), oct_lit (by decide)⟩ (by decide) (by decide) (by decide) (by decide)
    exact nx_of (r' := ⟨552, o s, (A.length : Int), y, 255, true, c, k, s + 1, s, rw⟩) st (.p552 w (by rw [e]; exact fun b hb => nomatch hb)) ⟨m, no254, oo s, M.ox, M.oy⟩ (.inl (by first | exact rk_lt rfl | lia))
  · obtain ⟨A', u, rfl⟩ : ∃ A' u, A = A' ++ [u] := by
      rcases List.eq_nil_or_concat A with e | ⟨A', u, e⟩
      · rw [e] at h; exact absurd rfl h
      · exact ⟨A', u, e.trans (List.concat_eq_append ..)⟩
    have el : (A' ++ [u]).length = A'.length + 1 := by rw [List.length_append]; rfl
    have st : Stp ⟨533, o s, ((A' ++ [u]).length : Int), y, 255, n, v, true, false, false, decide (((A' ++ [u]).length : Int) = 0), c, cyc, T g⟩ ⟨535, o s, ((A' ++ [u]).length : Int), y, 255, n, v, true, false, false, false, c, cyc + (2 + 0), T g⟩ := by
      rw [decide_eq_false h]
      exact s_BEQ_no (m.code 21 (p := (533, 240)) (by kernel_rfl) rfl rfl) (by decide)
    rw [el] at st ⊢
    have ox : Oct ((A'.length + 1 : Nat) : Int) := el ▸ M.ox
    exact nx_of (r' := ⟨535, o s, ((A'.length + 1 : Nat) : Int), y, 255, false, c, k, s + 1, s, rw⟩) st (.p535 w) ⟨m, no254, oo s, ox, M.oy⟩ (.inl (by first | exact rk_lt rfl | lia))
theorem PI.at1 (w : PI cnt o t s rw (A ++ [u]) B) : rw A.length = u ∧ A.length + 1 + B.length = s ∧ u ∈ A ++ [u] ++ B := by
  have el : (A ++ [u]).length = A.length + 1 := by rw [List.length_append]; rfl
  refine ⟨?_, by have := w.len; lia, by simp⟩
  rw [w.gap A.length (by lia), List.getD_eq_getElem?_getD, List.getElem?_append_left (by lia), List.getElem?_append_right (Nat.le_refl _), Nat.sub_self]; rfl
include hc oo htc in
theorem st535 (w : PI cnt o t s rw (A ++ [u]) B) (M : Cn cnt o t dev ⟨535, o s, ((A.length + 1 : Nat) : Int), y, 255, z, c, k, s + 1, s, rw⟩ g) : Nx cnt o t dev ((cnt - s - 1) * 64 + 10 * A.length + 18) (Yo ⟨535, o s, ((A.length + 1 : Nat) : Int), y, 255, z, c, k, s + 1, s, rw⟩ n v cyc g) := by
  have m : Mem cnt t (s + 1 : Nat) (s : Nat) dev (rgT o t) rw g := M.mem
  have := w.hs
  obtain ⟨e1, e2, e3⟩ := w.at1
  obtain ⟨j, ej⟩ := w.srt.mem e3
  have ou : Oct u := ej ▸ oo j
  obtain ⟨cyc', st⟩ := s_CMPax (pc := 535) (a := o s) (x := ((A.length + 1 : Nat) : Int)) (y := y) (sp := 255) (cyc := cyc) (n := n) (v := v) (bb := true) (d := false) (i := false) (z := z) (c := c) (m := T g) (lo := 255) (hi := 6) (t := ((1792 + A.length : Nat) : Int)) (w := u) (m.code 23 (p := (535, 221)) (by kernel_rfl) rfl rfl) (m.code 24 (p := (536, 255)) (by kernel_rfl) rfl rfl) ⟨(m.code 25 (p := (537, 6)) (by kernel_rfl) rfl rfl), oct_lit (by decide)⟩ (by lia) (by lia) ⟨at_N (by lia) ((m.rrow (by lia)).trans e1), ou⟩ (oo s) (by decide)
  exact nx_of (r' := ⟨538, o s, ((A.length + 1 : Nat) : Int), y, 255, _, decide (u ≤ o s), k, s + 1, s, rw⟩) st (.p538 w) ⟨m, no254, oo s, M.ox, M.oy⟩ (.inl (by first | exact rk_lt rfl | lia))
include hc oo htc in
theorem st538 (w : PI cnt o t s rw (A ++ [u]) B) (M : Cn cnt o t dev ⟨538, o s, ((A.length + 1 : Nat) : Int), y, 255, z, decide (u ≤ o s), k, s + 1, s, rw⟩ g) : Nx cnt o t dev ((cnt - s - 1) * 64 + 10 * A.length + 17) (Yo ⟨538, o s, ((A.length + 1 : Nat) : Int), y, 255, z, decide (u ≤ o s), k, s + 1, s, rw⟩ n v cyc g) := by
  have m : Mem cnt t (s + 1 : Nat) (s : Nat) dev (rgT o t) rw g := M.mem
  by_cases h : u ≤ o s
  · have el : (A ++ [u]).length = A.length + 1 := by rw [List.length_append]; rfl
    have st : Stp ⟨538, o s, ((A.length + 1 : Nat) : Int), y, 255, n, v, true, false, false, z, decide (u ≤ o s), cyc, T g⟩ ⟨552, o s, ((A ++ [u]).length : Int), y, 255, n, v, true, false, false, z, true, cyc + (2 + 1), T g⟩ := by
      rw [decide_eq_true h, el]
      exact s_BCS (b := 12) (t := 552) (m.code 26 (p := (538, 176)) (by kernel_rfl) rfl rfl) ⟨(m.code 27 (p := (539, 12)) (by kernel_rfl) rfl rfl), oct_lit (by decide)⟩ (by decide) (by decide) (by decide) (by decide)
    have le : ∀ b ∈ A ++ [u], b ≤ o s := fun b hb => by
      have p := (List.pairwise_append.mp w.srt.2).1
      rcases List.mem_append.mp hb with q | q
      · exact Int.le_trans ((List.pairwise_append.mp p).2.2 b q u List.mem_cons_self) h
      · rw [List.mem_singleton.mp q]; exact h
    exact nx_of (r' := ⟨552, o s, ((A ++ [u]).length : Int), y, 255, z, true, k, s + 1, s, rw⟩) st (.p552 w le) ⟨m, no254, oo s, el ▸ M.ox, M.oy⟩ (.inl (by first | exact rk_lt rfl | lia))
  · have st : Stp ⟨538, o s, ((A.length + 1 : Nat) : Int), y, 255, n, v, true, false, false, z, decide (u ≤ o s), cyc, T g⟩ ⟨540, o s, ((A.length + 1 : Nat) : Int), y, 255, n, v, true, false, false, z, false, cyc + (2 + 0), T g⟩ := by
      rw [decide_eq_false h]
      exact s_BCS_no (m.code 26 (p := (538, 176)) (by kernel_rfl) rfl rfl) (by decide)
    exact nx_of (r' := ⟨540, o s, ((A.length + 1 : Nat) : Int), y, 255, z, false, k, s + 1, s, rw⟩) st (.p540 w (by lia)) ⟨m, no254, oo s, M.ox, M.oy⟩ (.inl (by first | exact rk_lt rfl | lia))
include hc oo htc in
theorem st540 (w : PI cnt o t s rw (A ++ [u]) B) (h : o s < u) (M : Cn cnt o t dev ⟨540, o s, ((A.length + 1 : Nat) : Int), y, 255, z, c, k, s + 1, s, rw⟩ g) : Nx cnt o t dev ((cnt - s - 1) * 64 + 10 * A.length + 16) (Yo ⟨540, o s, ((A.length + 1 : Nat) : Int), y, 255, z, c, k, s + 1, s, rw⟩ n v cyc g) := by
  have m : Mem cnt t (s + 1 : Nat) (s : Nat) dev (rgT o t) rw g := M.mem
  have st : Stp ⟨540, o s, ((A.length + 1 : Nat) : Int), y, 255, n, v, true, false, false, z, c, cyc, T g⟩ ⟨541, o s, ((A.length + 1 : Nat) : Int), o s, 255, decide (128 ≤ o s), v, true, false, false, decide (o s = 0), c, cyc + (2 + 0), T g⟩ :=
    s_TAY (m.code 28 (p := (540, 168)) (by kernel_rfl) rfl rfl) (oo s) (by decide)
  exact nx_of (r' := ⟨541, o s, ((A.length + 1 : Nat) : Int), o s, 255, _, c, k, s + 1, s, rw⟩) st (.p541 w h) ⟨m, no254, oo s, M.ox, oo s⟩ (.inl (by first | exact rk_lt rfl | lia))
include hc oo htc in
theorem st541 (w : PI cnt o t s rw (A ++ [u]) B) (h : o s < u) (M : Cn cnt o t dev ⟨541, a, ((A.length + 1 : Nat) : Int), o s, 255, z, c, k, s + 1, s, rw⟩ g) : Nx cnt o t dev ((cnt - s - 1) * 64 + 10 * A.length + 15) (Yo ⟨541, a, ((A.length + 1 : Nat) : Int), o s, 255, z, c, k, s + 1, s, rw⟩ n v cyc g) := by
  have m : Mem cnt t (s + 1 : Nat) (s : Nat) dev (rgT o t) rw g := M.mem
  have := w.hs
  obtain ⟨e1, e2, e3⟩ := w.at1
  obtain ⟨j, ej⟩ := w.srt.mem e3
  have ou : Oct u := ej ▸ oo j
  obtain ⟨cyc', st⟩ := s_LDAax (pc := 541) (a := a) (x := ((A.length + 1 : Nat) : Int)) (y := o s) (sp := 255) (cyc := cyc) (n := n) (v := v) (bb := true) (d := false) (i := false) (z := z) (c := c) (m := T g) (lo := 255) (hi := 6) (t := ((1792 + A.length : Nat) : Int)) (w := u) (m.code 29 (p := (541, 189)) (by kernel_rfl) rfl rfl) (m.code 30 (p := (542, 255)) (by kernel_rfl) rfl rfl) ⟨(m.code 31 (p := (543, 6)) (by kernel_rfl) rfl rfl), oct_lit (by decide)⟩ (by lia) (by lia) ⟨at_N (by lia) ((m.rrow (by lia)).trans e1), ou⟩ (by decide)
  exact nx_of (r' := ⟨544, u, ((A.length + 1 : Nat) : Int), o s, 255, _, c, k, s + 1, s, rw⟩) st (.p544 w h) ⟨m, no254, ou, M.ox, oo s⟩ (.inl (by first | exact rk_lt rfl | lia))
include hc oo htc in
theorem st544 (w : PI cnt o t s rw (A ++ [u]) B) (h : o s < u) (M : Cn cnt o t dev ⟨544, u, ((A.length + 1 : Nat) : Int), o s, 255, z, c, k, s + 1, s, rw⟩ g) : Nx cnt o t dev ((cnt - s - 1) * 64 + 10 * A.length + 14) (Yo ⟨544, u, ((A.length + 1 : Nat) : Int), o s, 255, z, c, k, s + 1, s, rw⟩ n v cyc g) := by
  have m : Mem cnt t (s + 1 : Nat) (s : Nat) dev (rgT o t) rw g := M.mem
  have := w.hs
  obtain ⟨e1, e2, e3⟩ := w.at1
  obtain ⟨j, ej⟩ := w.srt.mem e3
  have ou : Oct u := ej ▸ oo j
  have st := s_STAax (pc := 544) (a := u) (x := ((A.length + 1 : Nat) : Int)) (y := o s) (sp := 255) (cyc := cyc) (n := n) (v := v) (bb := true) (d := false) (i := false) (z := z) (c := c) (m := T g) (lo := 0) (hi := 7) (t := ((1792 + (A.length + 1) : Nat) : Int)) (w := g (1792 + (A.length + 1))) (m.code 32 (p := (544, 157)) (by kernel_rfl) rfl rfl) (m.code 33 (p := (545, 0)) (by kernel_rfl) rfl rfl) ⟨(m.code 34 (p := (546, 7)) (by kernel_rfl) rfl rfl), oct_lit (by decide)⟩ (by lia) (by lia) (at_N (by lia) rfl) (by decide)
  rw [set_T, Int.toNat_natCast] at st
  have p : PI cnt o t s (upd rw (A.length + 1) u) A (u :: B) := by
    refine ⟨w.hs, w.ht, fun i hi => ?_, by have := w.srt; rwa [List.append_assoc] at this, fun b hb => ?_⟩
    · by_cases q : i = A.length + 1
      · subst q
        rw [upd_eq, List.getD_eq_getElem?_getD, List.getElem?_append_right (by lia), show A.length + 1 - A.length = 1 by lia]; rfl
      · rw [upd_ne q, w.gap i (by rw [List.length_append]; exact q), List.getD_eq_getElem?_getD, List.getD_eq_getElem?_getD]
        by_cases q2 : i < A.length
        · rw [List.append_assoc, List.getElem?_append_left q2, List.getElem?_append_left q2]
        · obtain ⟨d, rfl⟩ : ∃ d, i = A.length + (d + 2) := ⟨i - A.length - 2, by lia⟩
          have e : ∀ C : List Int, (A ++ C)[A.length + (d + 2)]? = C[d + 2]? := fun C => by rw [List.getElem?_append_right (by lia), Nat.add_sub_cancel_left]
          rw [List.append_assoc, e, e]; rfl
    · rcases List.mem_cons.mp hb with rfl | hb
      · exact h
      · exact w.gt b hb
  exact nx_of (r' := ⟨547, u, ((A.length + 1 : Nat) : Int), o s, 255, z, c, k, s + 1, s, upd rw (A.length + 1) u⟩) st (.p547 p) ⟨m.srow (by lia), no254, ou, M.ox, oo s⟩ (.inl (by first | exact rk_lt rfl | lia))
include hc oo htc in
theorem st547 (w : PI cnt o t s rw A B) (M : Cn cnt o t dev ⟨547, a, ((A.length + 1 : Nat) : Int), o s, 255, z, c, k, s + 1, s, rw⟩ g) : Nx cnt o t dev ((cnt - s - 1) * 64 + 10 * A.length + 13) (Yo ⟨547, a, ((A.length + 1 : Nat) : Int), o s, 255, z, c, k, s + 1, s, rw⟩ n v cyc g) := by
  have m : Mem cnt t (s + 1 : Nat) (s : Nat) dev (rgT o t) rw g := M.mem
  have st : Stp ⟨547, a, ((A.length + 1 : Nat) : Int), o s, 255, n, v, true, false, false, z, c, cyc, T g⟩ ⟨548, o s, ((A.length + 1 : Nat) : Int), o s, 255, decide (128 ≤ o s), v, true, false, false, decide (o s = 0), c, cyc + (2 + 0), T g⟩ :=
    s_TYA (m.code 35 (p := (547, 152)) (by kernel_rfl) rfl rfl) (oo s) (by decide)
  exact nx_of (r' := ⟨548, o s, ((A.length + 1 : Nat) : Int), o s, 255, _, c, k, s + 1, s, rw⟩) st (.p548 w) ⟨m, no254, oo s, M.ox, M.oy⟩ (.inl (by first | exact rk_lt rfl | lia))
include hc oo htc in
theorem st548 (w : PI cnt o t s rw A B) (M : Cn cnt o t dev ⟨548, o s, ((A.length + 1 : Nat) : Int), y, 255, z, c, k, s + 1, s, rw⟩ g) : Nx cnt o t dev ((cnt - s - 1) * 64 + 10 * A.length + 12) (Yo ⟨548, o s, ((A.length + 1 : Nat) : Int), y, 255, z, c, k, s + 1, s, rw⟩ n v cyc g) := by
  have m : Mem cnt t (s + 1 : Nat) (s : Nat) dev (rgT o t) rw g := M.mem
  have := w.hs
  have := w.len
  have os : Oct (A.length : Int) := oct_n (by lia)
  have st0 := s_DEX (pc := 548) (a := o s) (x := ((A.length + 1 : Nat) : Int)) (y := y) (sp := 255) (cyc := cyc) (n := n) (v := v) (bb := true) (d := false) (i := false) (z := z) (c := c) (m := T g) (m.code 36 (p := (548, 202)) (by kernel_rfl) rfl rfl) M.ox (by decide)
  rw [show (((A.length + 1 : Nat) : Int) - 1) % 256 = (A.length : Int) by lia] at st0
  exact nx_of (r' := ⟨549, o s, (A.length : Int), y, 255, _, c, k, s + 1, s, rw⟩) st0 (.p549 w) ⟨m, no254, oo s, os, M.oy⟩ (.inl (by first | exact rk_lt rfl | lia))
include hc oo htc in
theorem st549 (w : PI cnt o t s rw A B) (M : Cn cnt o t dev ⟨549, o s, (A.length : Int), y, 255, z, c, k, s + 1, s, rw⟩ g) : Nx cnt o t dev ((cnt - s - 1) * 64 + 10 * A.length + 11) (Yo ⟨549, o s, (A.length : Int), y, 255, z, c, k, s + 1, s, rw⟩ n v cyc g) := by
  have m : Mem cnt t (s + 1 : Nat) (s : Nat) dev (rgT o t) rw g := M.mem
  have st : Stp ⟨549, o s, (A.length : Int), y, 255, n, v, true, false, false, z, c, cyc, T g⟩ ⟨531, o s, (A.length : Int), y, 255, n, v, true, false, false, z, c, cyc + (3 + 0), T g⟩ :=
    s_JMP (b := 19) (b' := 2) (t := 531) (m.code 37 (p := (549, 76)) (by kernel_rfl) rfl rfl) (m.code 38 (p := (550, 19)) (by kernel_rfl) rfl rfl) ⟨(m.code 39 (p := (551, 2)) (by kernel_rfl) rfl rfl), oct_lit (by decide)⟩ (by decide) (by decide) (by decide)
  exact nx_of (r' := ⟨531, o s, (A.length : Int), y, 255, z, c, k, s + 1, s, rw⟩) st (.p531 w) ⟨m, no254, oo s, M.ox, M.oy⟩ (.inl (by first | exact rk_lt rfl | lia))
include hc oo htc in
theorem st552 (w : PI cnt o t s rw A B) (h : ∀ a ∈ A, a ≤ o s) (M : Cn cnt o t dev ⟨552, o s, (A.length : Int), y, 255, z, c, k, s + 1, s, rw⟩ g) : Nx cnt o t dev ((cnt - s - 1) * 64 + 5) (Yo ⟨552, o s, (A.length : Int), y, 255, z, c, k, s + 1, s, rw⟩ n v cyc g) := by
  have m : Mem cnt t (s + 1 : Nat) (s : Nat) dev (rgT o t) rw g := M.mem
  have := w.hs
  have := w.len
  have st := s_STAax (pc := 552) (a := o s) (x := (A.length : Int)) (y := y) (sp := 255) (cyc := cyc) (n := n) (v := v) (bb := true) (d := false) (i := false) (z := z) (c := c) (m := T g) (lo := 0) (hi := 7) (t := ((1792 + A.length : Nat) : Int)) (w := g (1792 + A.length)) (m.code 40 (p := (552, 157)) (by kernel_rfl) rfl rfl) (m.code 41 (p := (553, 0)) (by kernel_rfl) rfl rfl) ⟨(m.code 42 (p := (554, 7)) (by kernel_rfl) rfl rfl), oct_lit (by decide)⟩ (by lia) (by lia) (at_N (by lia) rfl) (by decide)
  rw [set_T, Int.toNat_natCast] at st
  have p : PF cnt o t (s + 1) (upd rw A.length (o s)) (A ++ o s :: B) := by
    refine ⟨w.hs, w.ht, fun i => ?_, ?_, ?_⟩
    · by_cases q : i = A.length
      · subst q
        rw [upd_eq, List.getD_eq_getElem?_getD, List.getElem?_append_right (Nat.le_refl _), Nat.sub_self]; rfl
      · rw [upd_ne q, w.gap i q, List.getD_eq_getElem?_getD, List.getD_eq_getElem?_getD]
        by_cases q2 : i < A.length
        · rw [List.getElem?_append_left q2, List.getElem?_append_left q2]
        · obtain ⟨d, rfl⟩ : ∃ d, i = A.length + (d + 1) := ⟨i - A.length - 1, by lia⟩
          rw [List.getElem?_append_right (by lia), List.getElem?_append_right (by lia), Nat.add_sub_cancel_left]; rfl
    · have e : tk o (s + 1) = tk o s ++ [o s] := by unfold tk; rw [List.range_succ, List.map_append]; rfl
      rw [e]
      exact (List.perm_middle.trans (w.srt.1.cons _)).trans (List.perm_append_comm (l₁ := [o s]) (l₂ := tk o s))
    · obtain ⟨q1, q2, q3⟩ := List.pairwise_append.mp w.srt.2
      refine List.pairwise_append.mpr ⟨q1, List.pairwise_cons.mpr ⟨fun b hb => Int.le_of_lt (w.gt b hb), q2⟩, fun b hb d hd => ?_⟩
      rcases List.mem_cons.mp hd with rfl | hd
      · exact h b hb
      · exact q3 b hb d hd
  exact nx_of (r' := ⟨555, o s, (A.length : Int), y, 255, z, c, k, s + 1, s, upd rw A.length (o s)⟩) st (.p555 p) ⟨m.srow (by lia), no254, oo s, M.ox, M.oy⟩ (.inl (by first | exact rk_lt rfl | lia))
include hc oo htc in
theorem st555 (w : PF cnt o t (s + 1) rw L) (M : Cn cnt o t dev ⟨555, a, x, y, 255, z, c, k, s + 1, s, rw⟩ g) : Nx cnt o t dev ((cnt - s - 1) * 64 + 4) (Yo ⟨555, a, x, y, 255, z, c, k, s + 1, s, rw⟩ n v cyc g) := by
  have m : Mem cnt t (s + 1 : Nat) (s : Nat) dev (rgT o t) rw g := M.mem
  have := w.hs
  have st0 := s_INCz (pc := 555) (a := a) (x := x) (y := y) (sp := 255) (cyc := cyc) (n := n) (v := v) (bb := true) (d := false) (i := false) (z := z) (c := c) (m := T g) (k := 18) (w := (s : Int)) (m.code 43 (p := (555, 230)) (by kernel_rfl) rfl rfl) (m.code 44 (p := (556, 18)) (by kernel_rfl) rfl rfl) ⟨at_T (by decide) (by decide) m.r18, oct_n (by lia)⟩ (by decide)
  rw [set_T, show ((s : Int) + 1) % 256 = ((s + 1 : Nat) : Int) by lia] at st0
  exact nx_of (r' := ⟨557, a, x, y, 255, _, c, k, s + 1, s + 1, rw⟩) st0 (.p557 w) ⟨m.s18, no254, M.oa, M.ox, M.oy⟩ (.inl (by first | exact rk_lt rfl | lia))
include hc oo htc in
theorem st557 (w : PF cnt o t s rw L) (M : Cn cnt o t dev ⟨557, a, x, y, 255, z, c, k, s, s, rw⟩ g) : Nx cnt o t dev ((cnt - s) * 64 + 3) (Yo ⟨557, a, x, y, 255, z, c, k, s, s, rw⟩ n v cyc g) := by
  have m : Mem cnt t (s : Nat) (s : Nat) dev (rgT o t) rw g := M.mem
  have := w.hs
  have os : Oct (s : Int) := oct_n (by lia)
  have st : Stp ⟨557, a, x, y, 255, n, v, true, false, false, z, c, cyc, T g⟩ ⟨559, (s : Int), x, y, 255, decide (128 ≤ (s : Int)), v, true, false, false, decide ((s : Int) = 0), c, cyc + (3 + 0), T g⟩ :=
    s_LDAz (k := 18) (w := (s : Int)) (m.code 45 (p := (557, 165)) (by kernel_rfl) rfl rfl) (m.code 46 (p := (558, 18)) (by kernel_rfl) rfl rfl) ⟨at_T (by decide) (by decide) m.r18, os⟩ (by decide)
  exact nx_of (r' := ⟨559, (s : Int), x, y, 255, _, c, k, s, s, rw⟩) st (.p559 w) ⟨m, no254, os, M.ox, M.oy⟩ (.inl (by first | exact rk_lt rfl | lia))
include hc oo htc in
theorem st559 (w : PF cnt o t s rw L) (M : Cn cnt o t dev ⟨559, (s : Int), x, y, 255, z, c, k, s, s, rw⟩ g) : Nx cnt o t dev ((cnt - s) * 64 + 2) (Yo ⟨559, (s : Int), x, y, 255, z, c, k, s, s, rw⟩ n v cyc g) := by
  have m : Mem cnt t (s : Nat) (s : Nat) dev (rgT o t) rw g := M.mem
  have st : Stp ⟨559, (s : Int), x, y, 255, n, v, true, false, false, z, c, cyc, T g⟩ ⟨561, (s : Int), x, y, 255, decide (128 ≤ ((s : Int) - (cnt : Int)) % 256), v, true, false, false, decide ((s : Int) = (cnt : Int)), decide ((cnt : Int) ≤ (s : Int)), cyc + (2 + 0), T g⟩ :=
    s_CMPi (w := (cnt : Int)) (m.code 47 (p := (559, 201)) (by kernel_rfl) rfl rfl) ⟨(m.code 48 (p := (560, (cnt : Int))) (by kernel_rfl) rfl rfl), oct_n (by lia)⟩ M.oa (by decide)
  exact nx_of (r' := ⟨561, (s : Int), x, y, 255, decide ((s : Int) = (cnt : Int)), decide ((cnt : Int) ≤ (s : Int)), k, s, s, rw⟩) st (.p561 w) ⟨m, no254, M.oa, M.ox, M.oy⟩ (.inl (by first | exact rk_lt rfl | lia))
include hc oo htc in
theorem st561 (w : PF cnt o t s rw L) (M : Cn cnt o t dev ⟨561, (s : Int), x, y, 255, decide ((s : Int) = (cnt : Int)), decide ((cnt : Int) ≤ (s : Int)), k, s, s, rw⟩ g) : Nx cnt o t dev ((cnt - s) * 64 + 1) (Yo ⟨561, (s : Int), x, y, 255, decide ((s : Int) = (cnt : Int)), decide ((cnt : Int) ≤ (s : Int)), k, s, s, rw⟩ n v cyc g) := by
  have m : Mem cnt t (s : Nat) (s : Nat) dev (rgT o t) rw g := M.mem
  have := w.hs
  by_cases h : s = cnt
  · subst h
    have st : Stp ⟨561, (s : Int), x, y, 255, n, v, true, false, false, decide ((s : Int) = (s : Int)), decide ((s : Int) ≤ (s : Int)), cyc, T g⟩ ⟨563, (s : Int), x, y, 255, n, v, true, false, false, true, true, cyc + (2 + 0), T g⟩ := by
      rw [decide_eq_true (show (s : Int) = (s : Int) from rfl), decide_eq_true (show (s : Int) ≤ (s : Int) from Int.le_refl _)]
      exact s_BNE_no (m.code 49 (p := (561, 208)) (by kernel_rfl) rfl rfl) (by decide)
    exact nx_of (r' := ⟨563, (s : Int), x, y, 255, true, true, k, s, s, rw⟩) st (.p563 w) ⟨m, no254, M.oa, M.ox, M.oy⟩ (.inl (by first | exact rk_lt rfl | lia))
  · have st : Stp ⟨561, (s : Int), x, y, 255, n, v, true, false, false, decide ((s : Int) = (cnt : Int)), decide ((cnt : Int) ≤ (s : Int)), cyc, T g⟩ ⟨512, (s : Int), x, y, 255, n, v, true, false, false, false, decide ((cnt : Int) ≤ (s : Int)), cyc + (2 + 1), T g⟩ := by
      rw [decide_eq_false (show ¬ (s : Int) = (cnt : Int) by lia)]
      exact s_BNE (b := 205) (t := 512) (m.code 49 (p := (561, 208)) (by kernel_rfl) rfl rfl) ⟨(m.code 50 (p := (562, 205)) (by kernel_rfl) rfl rfl), oct_lit (by decide)⟩ (by decide) (by decide) (by decide) (by decide)
    exact nx_of (r' := ⟨512, (s : Int), x, y, 255, false, decide ((cnt : Int) ≤ (s : Int)), k, s, s, rw⟩) st (.p512 ⟨by lia, w.ht, w.full, w.srt⟩) ⟨m, no254, M.oa, M.ox, M.oy⟩ (.inl (by first | exact rk_lt rfl | lia))
include hc oo htc in
theorem main_step {rk : Nat} {r : Rg} (p : Pl cnt o t rk r) (M : Cn cnt o t dev r g) (hpc : r.pc ≠ 563) : Nx cnt o t dev rk (Yo r n v cyc g) := by
  cases p with
  | p512 w => exact st512 hc oo htc w M
  | p514 w => exact st514 hc oo htc w M
  | p516z w => exact st516z hc oo htc w M
  | p516n w h => exact st516n hc oo htc w h M
  | p518 w h => exact st518 hc oo htc w h M
  | p521 w h => exact st521 hc oo htc w h M
  | p522 w h => exact st522 hc oo htc w h M
  | p523 w h => exact st523 hc oo htc w h M
  | p524 w h => exact st524 hc oo htc w h M
  | p526 w h => exact st526 hc oo htc w h M
  | p528 w h => exact st528 hc oo htc w h M
  | p529 w h => exact st529 hc oo htc w h M
  | p531 w => exact st531 hc oo htc w M
  | p533 w => exact st533 hc oo htc w M
  | p535 w => exact st535 hc oo htc w M
  | p538 w => exact st538 hc oo htc w M
  | p540 w h => exact st540 hc oo htc w h M
  | p541 w h => exact st541 hc oo htc w h M
  | p544 w h => exact st544 hc oo htc w h M
  | p547 w => exact st547 hc oo htc w M
  | p548 w => exact st548 hc oo htc w M
  | p549 w => exact st549 hc oo htc w M
  | p552 w h => exact st552 hc oo htc w h M
  | p555 w => exact st555 hc oo htc w M
  | p557 w => exact st557 hc oo htc w M
  | p559 w => exact st559 hc oo htc w M
  | p561 w => exact st561 hc oo htc w M
  | p563 w => exact absurd rfl hpc
end
end Mine

end
section
open PySem PySem.W PyProof.Rows
set_option maxRecDepth 100000
set_option maxHeartbeats 0
set_option linter.unusedSimpArgs false
set_option linter.unusedVariables false
set_option linter.unusedSectionVars false
namespace Mine
noncomputable def Ins (u : Y) : Prop := (49152 ≤ u.pc ∧ u.i = true) ∧ u.mem.length = 65536
inductive Path : Nat → Y → Y → Prop
  | nil (u : Y) : Path 0 u u
  | cons {u u₁ u₂ : Y} {k : Nat} (s : Stp u u₁) (i : Ins u) (r : Path k u₁ u₂) : Path (k + 1) u u₂
theorem rg_next {o : Nat → Int} {t : Nat} : upd (rgT o t) t (o t) = rgT o (t + 1) := by
  funext j
  unfold upd rgT
  by_cases e : j = t
  · subst e; rw [if_pos rfl, if_pos (Nat.lt_succ_self _)]
  · rw [if_neg e]
    by_cases q : j < t
    · rw [if_pos q, if_pos (by lia)]
    · rw [if_neg q, if_neg (by lia)]
noncomputable def f1 (g : Nat → Int) (q : Nat) (pc : Int) (p : Int) : Nat → Int := upd (upd (upd g (q + 256) (pc / 256)) (q + 255) (pc % 256)) (q + 254) p
noncomputable def f5 (g : Nat → Int) (q : Nat) (pc p a x : Int) (t : Nat) (dev : Int) : Nat → Int := upd (upd (upd (upd (f1 g q pc p) (q + 253) a) (q + 252) x) (1536 + t) dev) 16 ((t + 1 : Nat) : Int)
section
variable {cnt t h s q : Nat} {o : Nat → Int} {dev cyc pc a x y p : Int} {n v z c : Bool} {rw g : Nat → Int}
theorem oct_t {t : Nat} (h : t < 7) : Oct (t : Int) ∧ Oct ((t + 1 : Nat) : Int) ∧ ((t : Int) + 1) % 256 = ((t + 1 : Nat) : Int) := ⟨oct_n (by lia), oct_n (by lia), by lia⟩
theorem hi_lo {pc : Int} (h : 0 ≤ pc ∧ pc < 65536) : Oct (pc / 256) ∧ pc = pc % 256 + pc / 256 * 256 := ⟨⟨by lia, by lia⟩, by lia⟩
theorem q_st {q d : Nat} (hq : q = 254 ∨ q = 255) (h1 : Nat.ble 2 d = true) (h2 : Nat.ble d 256 = true) : 256 ≤ q + d ∧ q + d < 512 := by
  have := Nat.le_of_ble_eq_true h1; have := Nat.le_of_ble_eq_true h2; lia
theorem q_o {q : Nat} {d : Int} (hq : q = 254 ∨ q = 255) (h1 : 0 ≤ d) (h2 : d ≤ 254) : Oct ((q : Int) - d) := ⟨by lia, by lia⟩
theorem q_push {q d : Nat} {j : Int} (h : (d : Int) + j = 256) : (q : Int) - j + 256 = ((q + d : Nat) : Int) := by lia
theorem q_to {q d : Nat} {j : Int} (h : (d : Int) + j = 256) : ((q : Int) - j + 256).toNat = q + d := by rw [q_push h]; rfl
theorem q_mod {q : Nat} {j i r : Int} (hq : q = 254 ∨ q = 255) (h : r + i = j) (h1 : 0 ≤ r) (h2 : r ≤ 254) : ((q : Int) - j + i) % 256 = (q : Int) - r := by
  rw [show (q : Int) - j + i = (q : Int) - r by lia]; exact Int.emod_eq_of_lt (q_o hq h1 h2).1 (q_o hq h1 h2).2
theorem q_dec {q : Nat} {j r : Int} (hq : q = 254 ∨ q = 255) (h : j + 1 = r) (h1 : 0 ≤ r) (h2 : r ≤ 254) : ((q : Int) - j - 1) % 256 = (q : Int) - r := by
  rw [show (q : Int) - j - 1 = (q : Int) - r by lia]; exact Int.emod_eq_of_lt (q_o hq h1 h2).1 (q_o hq h1 h2).2
theorem q_sub {q : Nat} {j : Int} (hq : q = 254 ∨ q = 255) (h1 : 0 ≤ j) (h2 : j ≤ 254) : ((q : Int) - j) % 256 = (q : Int) - j := Int.emod_eq_of_lt (q_o hq h1 h2).1 (q_o hq h1 h2).2
theorem q_at {g : Nat → Int} {q d : Nat} {j w : Int} (hq : q = 254 ∨ q = 255) (hd : Nat.ble d 256 = true) (h : (d : Int) + j = 256) (hv : g (q + d) = w) : at? (T g) ((q : Int) - j + 256) = some w := by
  rw [q_push h]; have := Nat.le_of_ble_eq_true hd; exact at_N (by lia) hv
theorem q_at0 {g : Nat → Int} {q : Nat} (hq : q = 254 ∨ q = 255) : at? (T g) ((q : Int) + 256) = some (g (q + 256)) := at_N (k := q + 256) (by lia) rfl
theorem q_at' {g : Nat → Int} {q d : Nat} {j i r w : Int} (hq : q = 254 ∨ q = 255) (hd : Nat.ble d 256 = true) (h : (d : Int) + r = 256) (hr : r + i = j) (h1 : 0 ≤ r) (h2 : r ≤ 254) (hv : g (q + d) = w) : at? (T g) (((q : Int) - j + i) % 256 + 256) = some w := by
  rw [q_mod hq hr h1 h2]; exact q_at hq hd h hv
theorem f5_st (hq : q = 254 ∨ q = 255) : f5 g q pc p a x t dev (q + 252) = x ∧ f5 g q pc p a x t dev (q + 253) = a ∧ f5 g q pc p a x t dev (q + 254) = p ∧ f5 g q pc p a x t dev (q + 255) = pc % 256 ∧ f5 g q pc p a x t dev (q + 256) = pc / 256 := by
  unfold f5 f1 upd
  refine ⟨?_, ?_, ?_, ?_, ?_⟩ <;> rcases hq with rfl | rfl <;> simp <;> lia
theorem f5_511 (hq : q = 254) : f5 g q pc p a x t dev 511 = g 511 := by
  subst hq
  unfold f5 f1 upd
  rw [if_neg (by lia), if_neg (by lia), if_neg (by lia), if_neg (by lia), if_neg (by lia), if_neg (by lia), if_neg (by lia)]
theorem handler (hq : q = 254 ∨ q = 255) (ht : t < 7) (m : Mem cnt t h s dev (rgT o t) rw g) (hd : dev = o t) (od : Oct dev) (oa : Oct a) (ox : Oct x) (oy : Oct y) (hpc : 0 ≤ pc ∧ pc < 65536) :
    ∃ cyc', Path 14 ⟨49152, a, x, y, (q : Int) - 3, n, v, false, false, true, z, c, cyc, T (f1 g q pc (pk n v false false false z c))⟩ ⟨pc, a, x, y, (q : Int), n, v, true, false, false, z, c, cyc', T (f5 g q pc (pk n v false false false z c) a x t dev)⟩ ∧ Mem cnt (t + 1 : Nat) h s dev (rgT o (t + 1)) rw (f5 g q pc (pk n v false false false z c) a x t dev) := by
  have m1 : Mem cnt t h s dev (rgT o t) rw (f1 g q pc (pk n v false false false z c)) := ((m.stk (q_st hq rfl rfl)).stk (q_st hq rfl rfl)).stk (q_st hq rfl rfl)
  generalize hg1 : f1 g q pc (pk n v false false false z c) = g1 at m1
  have m2 : Mem cnt t h s dev (rgT o t) rw (upd g1 (q + 253) a) := m1.stk (q_st hq rfl rfl)
  generalize hg2 : upd g1 (q + 253) a = g2 at m2
  have m3 : Mem cnt t h s dev (rgT o t) rw (upd g2 (q + 252) x) := m2.stk (q_st hq rfl rfl)
  generalize hg3 : upd g2 (q + 252) x = g3 at m3
  have m4 : Mem cnt t h s dev (rgT o (t + 1)) rw (upd g3 (1536 + t) dev) := by
    have := m3.sring (v := dev) (i := t) (Nat.lt_succ_of_lt ht)
    rw [hd, rg_next] at this
    rw [hd]
    exact this
  generalize hg4 : upd g3 (1536 + t) dev = g4 at m4
  have m5 : Mem cnt (t + 1 : Nat) h s dev (rgT o (t + 1)) rw (upd g4 16 ((t + 1 : Nat) : Int)) := m4.s16
  generalize hg5 : upd g4 16 ((t + 1 : Nat) : Int) = g5 at m5
  have e5 : f5 g q pc (pk n v false false false z c) a x t dev = g5 := by unfold f5; rw [hg1, hg2, hg3, hg4, hg5]
  have w := f5_st (g := g) (pc := pc) (p := pk n v false false false z c) (a := a) (x := x) (t := t) (dev := dev) hq
  rw [e5] at w ⊢
  obtain ⟨w1, w2, w3, w4, w5⟩ := w
  have ot : Oct (t : Int) := (oct_t ht).1
  have ot1 : Oct ((t + 1 : Nat) : Int) := (oct_t ht).2.1
  have os3 : Oct ((q : Int) - 3) := q_o hq (by decide) (by decide)
  have os4 : Oct ((q : Int) - 4) := q_o hq (by decide) (by decide)
  have os5 : Oct ((q : Int) - 5) := q_o hq (by decide) (by decide)
  have s1 := s_PHA (pc := 49152) (a := a) (x := x) (y := y) (sp := (q : Int) - 3) (cyc := cyc) (n := n) (v := v) (bb := false) (d := false) (i := true) (z := z) (c := c) (m := T g1) (w := g1 (q + 253)) (m1.code 51 (p := (49152, 72)) (by kernel_rfl) rfl rfl) os3 oa (q_at (d := 253) hq rfl rfl rfl) (by decide)
  rw [set_T, q_to (j := 3) (d := 253) rfl, hg2, q_dec (j := 3) (r := 4) hq rfl (by decide) (by decide)] at s1
  have s2 := s_TXA (pc := 49153) (a := a) (x := x) (y := y) (sp := (q : Int) - 4) (cyc := cyc + (3 + 0)) (n := n) (v := v) (bb := false) (d := false) (i := true) (z := z) (c := c) (m := T g2) (m2.code 52 (p := (49153, 138)) (by kernel_rfl) rfl rfl) ox (by decide)
  have s3 := s_PHA (pc := 49154) (a := x) (x := x) (y := y) (sp := (q : Int) - 4) (cyc := cyc + (3 + 0) + (2 + 0)) (n := decide (128 ≤ x)) (v := v) (bb := false) (d := false) (i := true) (z := decide (x = 0)) (c := c) (m := T g2) (w := g2 (q + 252)) (m2.code 53 (p := (49154, 72)) (by kernel_rfl) rfl rfl) os4 ox (q_at (d := 252) hq rfl rfl rfl) (by decide)
  rw [set_T, q_to (j := 4) (d := 252) rfl, hg3, q_dec (j := 4) (r := 5) hq rfl (by decide) (by decide)] at s3
  have s4 := s_LDXz (pc := 49155) (a := x) (x := x) (y := y) (sp := (q : Int) - 5) (cyc := cyc + (3 + 0) + (2 + 0) + (3 + 0)) (n := decide (128 ≤ x)) (v := v) (bb := false) (d := false) (i := true) (z := decide (x = 0)) (c := c) (m := T g3) (k := 16) (w := (t : Int)) (m3.code 54 (p := (49155, 166)) (by kernel_rfl) rfl rfl) (m3.code 55 (p := (49156, 16)) (by kernel_rfl) rfl rfl) ⟨at_T (by decide) (by decide) m3.r16, ot⟩ (by decide)
  have s5 := s_LDAa (pc := 49157) (a := x) (x := (t : Int)) (y := y) (sp := (q : Int) - 5) (cyc := cyc + (3 + 0) + (2 + 0) + (3 + 0) + (3 + 0)) (n := decide (128 ≤ (t : Int))) (v := v) (bb := false) (d := false) (i := true) (z := decide ((t : Int) = 0)) (c := c) (m := T g3) (lo := 0) (hi := 208) (w := dev) (m3.code 56 (p := (49157, 173)) (by kernel_rfl) rfl rfl) (m3.code 57 (p := (49158, 0)) (by kernel_rfl) rfl rfl) ⟨(m3.code 58 (p := (49159, 208)) (by kernel_rfl) rfl rfl), oct_lit (by decide)⟩ ⟨at_T (by decide) (by decide) m3.rdev, od⟩ (by decide)
  have s6 := s_STAax (pc := 49160) (a := dev) (x := (t : Int)) (y := y) (sp := (q : Int) - 5) (cyc := cyc + (3 + 0) + (2 + 0) + (3 + 0) + (3 + 0) + (4 + 0)) (n := decide (128 ≤ dev)) (v := v) (bb := false) (d := false) (i := true) (z := decide (dev = 0)) (c := c) (m := T g3) (lo := 0) (hi := 6) (t := ((1536 + t : Nat) : Int)) (w := g3 (1536 + t)) (m3.code 59 (p := (49160, 157)) (by kernel_rfl) rfl rfl) (m3.code 60 (p := (49161, 0)) (by kernel_rfl) rfl rfl) ⟨(m3.code 61 (p := (49162, 6)) (by kernel_rfl) rfl rfl), oct_lit (by decide)⟩ (by lia) (by lia) (at_N (by lia) rfl) (by decide)
  rw [set_T, Int.toNat_natCast, hg4] at s6
  have s7 := s_INX (pc := 49163) (a := dev) (x := (t : Int)) (y := y) (sp := (q : Int) - 5) (cyc := cyc + (3 + 0) + (2 + 0) + (3 + 0) + (3 + 0) + (4 + 0) + (5 + 0)) (n := decide (128 ≤ dev)) (v := v) (bb := false) (d := false) (i := true) (z := decide (dev = 0)) (c := c) (m := T g4) (m4.code 62 (p := (49163, 232)) (by kernel_rfl) rfl rfl) ot (by decide)
  rw [(oct_t ht).2.2] at s7
  have s8 := s_TXA (pc := 49164) (a := dev) (x := ((t + 1 : Nat) : Int)) (y := y) (sp := (q : Int) - 5) (cyc := cyc + (3 + 0) + (2 + 0) + (3 + 0) + (3 + 0) + (4 + 0) + (5 + 0) + (2 + 0)) (n := decide (128 ≤ ((t + 1 : Nat) : Int))) (v := v) (bb := false) (d := false) (i := true) (z := decide (((t + 1 : Nat) : Int) = 0)) (c := c) (m := T g4) (m4.code 63 (p := (49164, 138)) (by kernel_rfl) rfl rfl) ot1 (by decide)
  have s9 := s_ANDi (pc := 49165) (a := ((t + 1 : Nat) : Int)) (x := ((t + 1 : Nat) : Int)) (y := y) (sp := (q : Int) - 5) (cyc := cyc + (3 + 0) + (2 + 0) + (3 + 0) + (3 + 0) + (4 + 0) + (5 + 0) + (2 + 0) + (2 + 0)) (n := decide (128 ≤ ((t + 1 : Nat) : Int))) (v := v) (bb := false) (d := false) (i := true) (z := decide (((t + 1 : Nat) : Int) = 0)) (c := c) (m := T g4) (w := 7) (r := ((t + 1 : Nat) : Int)) (m4.code 64 (p := (49165, 41)) (by kernel_rfl) rfl rfl) (m4.code 65 (p := (49166, 7)) (by kernel_rfl) rfl rfl) (and_7 _ (Nat.succ_lt_succ ht)) ot1 (by decide)
  have s10 := s_STAz (pc := 49167) (a := ((t + 1 : Nat) : Int)) (x := ((t + 1 : Nat) : Int)) (y := y) (sp := (q : Int) - 5) (cyc := cyc + (3 + 0) + (2 + 0) + (3 + 0) + (3 + 0) + (4 + 0) + (5 + 0) + (2 + 0) + (2 + 0) + (2 + 0)) (n := decide (128 ≤ ((t + 1 : Nat) : Int))) (v := v) (bb := false) (d := false) (i := true) (z := decide (((t + 1 : Nat) : Int) = 0)) (c := c) (m := T g4) (k := 16) (w := g4 16) (m4.code 66 (p := (49167, 133)) (by kernel_rfl) rfl rfl) (m4.code 67 (p := (49168, 16)) (by kernel_rfl) rfl rfl) (at_T (by decide) (by decide) rfl) (by decide)
  rw [set_T, show (16 : Int).toNat = 16 from rfl, hg5] at s10
  have s11 := s_PLA (pc := 49169) (a := ((t + 1 : Nat) : Int)) (x := ((t + 1 : Nat) : Int)) (y := y) (sp := (q : Int) - 5) (cyc := cyc + (3 + 0) + (2 + 0) + (3 + 0) + (3 + 0) + (4 + 0) + (5 + 0) + (2 + 0) + (2 + 0) + (2 + 0) + (3 + 0)) (n := decide (128 ≤ ((t + 1 : Nat) : Int))) (v := v) (bb := false) (d := false) (i := true) (z := decide (((t + 1 : Nat) : Int) = 0)) (c := c) (m := T g5) (w := x) (m5.code 68 (p := (49169, 104)) (by kernel_rfl) rfl rfl) os5 ⟨q_at' (d := 252) (r := 4) hq rfl rfl rfl (by decide) (by decide) w1, ox⟩ (by decide)
  rw [q_mod (j := 5) (i := 1) (r := 4) hq rfl (by decide) (by decide)] at s11
  have s12 := s_TAX (pc := 49170) (a := x) (x := ((t + 1 : Nat) : Int)) (y := y) (sp := (q : Int) - 4) (cyc := cyc + (3 + 0) + (2 + 0) + (3 + 0) + (3 + 0) + (4 + 0) + (5 + 0) + (2 + 0) + (2 + 0) + (2 + 0) + (3 + 0) + (4 + 0)) (n := decide (128 ≤ x)) (v := v) (bb := false) (d := false) (i := true) (z := decide (x = 0)) (c := c) (m := T g5) (m5.code 69 (p := (49170, 170)) (by kernel_rfl) rfl rfl) ox (by decide)
  have s13 := s_PLA (pc := 49171) (a := x) (x := x) (y := y) (sp := (q : Int) - 4) (cyc := cyc + (3 + 0) + (2 + 0) + (3 + 0) + (3 + 0) + (4 + 0) + (5 + 0) + (2 + 0) + (2 + 0) + (2 + 0) + (3 + 0) + (4 + 0) + (2 + 0)) (n := decide (128 ≤ x)) (v := v) (bb := false) (d := false) (i := true) (z := decide (x = 0)) (c := c) (m := T g5) (w := a) (m5.code 70 (p := (49171, 104)) (by kernel_rfl) rfl rfl) os4 ⟨q_at' (d := 253) (r := 3) hq rfl rfl rfl (by decide) (by decide) w2, oa⟩ (by decide)
  rw [q_mod (j := 4) (i := 1) (r := 3) hq rfl (by decide) (by decide)] at s13
  have s14 := s_RTI (pc := 49172) (a := a) (x := x) (y := y) (sp := (q : Int) - 3) (cyc := cyc + (3 + 0) + (2 + 0) + (3 + 0) + (3 + 0) + (4 + 0) + (5 + 0) + (2 + 0) + (2 + 0) + (2 + 0) + (3 + 0) + (4 + 0) + (2 + 0) + (4 + 0)) (n := decide (128 ≤ a)) (v := v) (bb := false) (d := false) (i := true) (z := decide (a = 0)) (c := c) (m := T g5) (lo := pc % 256) (hi := pc / 256) (t := pc) (n' := n) (v' := v) (b' := false) (d' := false) (i' := false) (z' := z) (c' := c) (m5.code 71 (p := (49172, 64)) (by kernel_rfl) rfl rfl) os3 (q_at' (d := 254) (r := 2) hq rfl rfl rfl (by decide) (by decide) w3) (q_at' (d := 255) (r := 1) hq rfl rfl rfl (by decide) (by decide) w4) ⟨q_at' (d := 256) (r := 0) hq rfl rfl rfl (by decide) (by decide) w5, (hi_lo hpc).1⟩ (hi_lo hpc).2 hpc (by decide)
  rw [q_mod (j := 3) (i := 3) (r := 0) hq rfl (by decide) (by decide), Int.sub_zero] at s14
  have I : ∀ (P A X S : Int) (N Z : Bool) (C : Int) (G : Nat → Int), 49152 ≤ P → Ins ⟨P, A, X, y, S, N, v, false, false, true, Z, c, C, T G⟩ := fun _ _ _ _ _ _ _ _ h => ⟨⟨h, rfl⟩, T_len⟩
  exact ⟨_, .cons s1 (I _ _ _ _ _ _ _ _ (by decide)) (.cons s2 (I _ _ _ _ _ _ _ _ (by decide)) (.cons s3 (I _ _ _ _ _ _ _ _ (by decide)) (.cons s4 (I _ _ _ _ _ _ _ _ (by decide)) (.cons s5 (I _ _ _ _ _ _ _ _ (by decide)) (.cons s6 (I _ _ _ _ _ _ _ _ (by decide)) (.cons s7 (I _ _ _ _ _ _ _ _ (by decide)) (.cons s8 (I _ _ _ _ _ _ _ _ (by decide)) (.cons s9 (I _ _ _ _ _ _ _ _ (by decide)) (.cons s10 (I _ _ _ _ _ _ _ _ (by decide)) (.cons s11 (I _ _ _ _ _ _ _ _ (by decide)) (.cons s12 (I _ _ _ _ _ _ _ _ (by decide)) (.cons s13 (I _ _ _ _ _ _ _ _ (by decide)) (.cons s14 (I _ _ _ _ _ _ _ _ (by decide)) (.nil _)))))))))))))), m5⟩
theorem enter (hq : q = 254 ∨ q = 255) (m : Mem cnt t h s dev (rgT o t) rw g) (hpc : 0 ≤ pc ∧ pc < 65536) :
    Mth i_nmi ⟨pc, a, x, y, (q : Int), n, v, true, false, false, z, c, cyc, T g⟩ ⟨49152, a, x, y, (q : Int) - 3, n, v, false, false, true, z, c, cyc + 7, T (f1 g q pc (pk n v false false false z c))⟩ ∧
    Mth i_irq ⟨pc, a, x, y, (q : Int), n, v, true, false, false, z, c, cyc, T g⟩ ⟨49152, a, x, y, (q : Int) - 3, n, v, false, false, true, z, c, cyc + 7, T (f1 g q pc (pk n v false false false z c))⟩ := by
  have os : Oct (q : Int) := Int.sub_zero (q : Int) ▸ q_o hq (by decide) (by decide)
  have m1 : Mem cnt t h s dev (rgT o t) rw (f1 g q pc (pk n v false false false z c)) := ((m.stk (q_st hq rfl rfl)).stk (q_st hq rfl rfl)).stk (q_st hq rfl rfl)
  have hm : T (f1 g q pc (pk n v false false false z c)) = (((T g).set ((q : Int) + 256).toNat (pc / 256)).set (((q : Int) - 1) % 256 + 256).toNat (pc % 256)).set (((q : Int) - 2) % 256 + 256).toNat (pk n v false false false z c) := by
    rw [set_T, set_T, set_T, show ((q : Int) + 256).toNat = q + 256 from rfl, q_sub (j := 1) hq (by decide) (by decide), q_sub (j := 2) hq (by decide) (by decide), q_to (j := 1) (d := 255) rfl, q_to (j := 2) (d := 254) rfl]; rfl
  have e3 : ((q : Int) - 3) % 256 = (q : Int) - 3 := q_sub hq (by decide) (by decide)
  have a1 : at? (T g) ((q : Int) + 256) = some (g (q + 256)) := q_at0 hq
  have a2 : at? (T g) (((q : Int) - 1) % 256 + 256) = some (g (q + 255)) := (q_sub (j := 1) hq (by decide) (by decide)).symm ▸ q_at (d := 255) hq rfl rfl rfl
  have a3 : at? (T g) (((q : Int) - 2) % 256 + 256) = some (g (q + 254)) := (q_sub (j := 2) hq (by decide) (by decide)).symm ▸ q_at (d := 254) hq rfl rfl rfl
  have r1 := s_nmi (pc := pc) (a := a) (x := x) (y := y) (sp := (q : Int)) (cyc := cyc) (n := n) (v := v) (bb := true) (d := false) (i := false) (z := z) (c := c) (m := T g) (lo := 0) (hi := 192) (t := 49152) os a1 a2 a3 hm (m1.code 72 (p := (65530, 0)) (by kernel_rfl) rfl rfl) ⟨m1.code 73 (p := (65531, 192)) (by kernel_rfl) rfl rfl, oct_lit (by decide)⟩ (by decide) hpc
  have r2 := s_irq (pc := pc) (a := a) (x := x) (y := y) (sp := (q : Int)) (cyc := cyc) (n := n) (v := v) (bb := true) (d := false) (z := z) (c := c) (m := T g) (lo := 0) (hi := 192) (t := 49152) os a1 a2 a3 hm (m1.code 74 (p := (65534, 0)) (by kernel_rfl) rfl rfl) ⟨m1.code 75 (p := (65535, 192)) (by kernel_rfl) rfl rfl, oct_lit (by decide)⟩ (by decide) hpc
  rw [e3] at r1 r2
  exact ⟨r1, r2⟩
end
end Mine

end
section
open PySem PySem.W PyProof.Rows
set_option maxRecDepth 100000
set_option maxHeartbeats 0
set_option linter.unusedSimpArgs false
set_option linter.unusedVariables false
set_option linter.unusedSectionVars false
namespace Mine
theorem pl_mono {cnt t : Nat} {o : Nat → Int} {rk : Nat} {r : Rg} (p : Pl cnt o t rk r) : Pl cnt o (t + 1) rk r := by
  have W : ∀ {s rw L}, PW cnt o t s rw L → PW cnt o (t + 1) s rw L := fun w => ⟨w.hs, Nat.le_succ_of_le w.ht, w.full, w.srt⟩
  have I : ∀ {s rw A B}, PI cnt o t s rw A B → PI cnt o (t + 1) s rw A B := fun w => ⟨w.hs, Nat.le_succ_of_le w.ht, w.gap, w.srt, w.gt⟩
  have F : ∀ {s rw L}, PF cnt o t s rw L → PF cnt o (t + 1) s rw L := fun w => ⟨w.hs, Nat.le_succ_of_le w.ht, w.full, w.srt⟩
  cases p with
  | p512 w => exact .p512 (W w)
  | p514 w => exact .p514 (W w)
  | p516z w => exact .p516z (W w)
  | p516n w h => exact .p516n (W w) (Nat.lt_succ_of_lt h)
  | p518 w h => exact .p518 (W w) (Nat.lt_succ_of_lt h)
  | p521 w h => exact .p521 (W w) (Nat.lt_succ_of_lt h)
  | p522 w h => exact .p522 (W w) (Nat.lt_succ_of_lt h)
  | p523 w h => exact .p523 (W w) (Nat.lt_succ_of_lt h)
  | p524 w h => exact .p524 (W w) (Nat.lt_succ_of_lt h)
  | p526 w h => exact .p526 (W w) (Nat.lt_succ_of_lt h)
  | p528 w h => exact .p528 (W w) (Nat.lt_succ_of_lt h)
  | p529 w h => exact .p529 (W w) (Nat.lt_succ_of_lt h)
  | p531 w => exact .p531 (I w)
  | p533 w => exact .p533 (I w)
  | p535 w => exact .p535 (I w)
  | p538 w => exact .p538 (I w)
  | p540 w h => exact .p540 (I w) h
  | p541 w h => exact .p541 (I w) h
  | p544 w h => exact .p544 (I w) h
  | p547 w => exact .p547 (I w)
  | p548 w => exact .p548 (I w)
  | p549 w => exact .p549 (I w)
  | p552 w h => exact .p552 (I w) h
  | p555 w => exact .p555 (F w)
  | p557 w => exact .p557 (F w)
  | p559 w => exact .p559 (F w)
  | p561 w => exact .p561 (F w)
  | p563 w => exact .p563 (F w)
noncomputable def okp (pc sp : Int) : Bool := decide (512 ≤ pc) && decide (pc < 49152) && (decide (sp = 254) || decide (sp = 255)) && !decide (pc = 563)
noncomputable def PlI (cnt : Nat) (o : Nat → Int) (t rk : Nat) (r : Rg) : Prop := ((512 ≤ r.pc ∧ r.pc < 49152) ∧ ∃ q : Nat, (q = 254 ∨ q = 255) ∧ r.sp = (q : Int)) ∧ (r.pc = 563 → ∃ x y k rw L, PF cnt o t cnt rw L ∧ rk = 0 ∧ r = ⟨563, (cnt : Int), x, y, 255, true, true, k, cnt, cnt, rw⟩)
theorem sp_of {sp : Int} (h : (decide (sp = 254) || decide (sp = 255)) = true) : ∃ q : Nat, (q = 254 ∨ q = 255) ∧ sp = (q : Int) := by
  rcases Bool.or_eq_true_iff.mp h with h | h
  · exact ⟨254, .inl rfl, of_decide_eq_true h⟩
  · exact ⟨255, .inr rfl, of_decide_eq_true h⟩
theorem low_of {cnt : Nat} {o : Nat → Int} {t rk : Nat} {r : Rg} (h : okp r.pc r.sp = true) : PlI cnt o t rk r := by
  refine and_el h fun h h4 => and_el h fun h h3 => and_el h fun h1 h2 => ⟨⟨⟨of_decide_eq_true h1, of_decide_eq_true h2⟩, sp_of h3⟩, fun e => ?_⟩
  rw [decide_eq_true e] at h4; cases h4
theorem pl_info {cnt t : Nat} {o : Nat → Int} {rk : Nat} {r : Rg} (p : Pl cnt o t rk r) : PlI cnt o t rk r := by
  cases p
  case p563 w => exact ⟨⟨⟨show (512 : Int) ≤ 563 by decide, show (563 : Int) < 49152 by decide⟩, 255, .inr rfl, rfl⟩, fun _ => ⟨_, _, _, _, _, w, rfl, rfl⟩⟩
  all_goals exact low_of rfl
noncomputable def dv (o : Nat → Int) (cl : Nat) : Int := if cl = 0 then 0 else o (cl - 1)
structure Sta (cnt : Nat) (o : Nat → Int) (F : Nat) (u : Y) (cl : Nat) (w : Int) : Prop where
  le : cl ≤ cnt
  is : ∃ k rk r n v cyc g, Path k u (Yo r n v cyc g) ∧ Pl cnt o cl rk r ∧ Cn cnt o cl (dv o cl) r g ∧ F = rk + 3 * w.toNat + 64 * (cnt - cl) + k
noncomputable def LM (ns sd : List Int) (cnt : Nat) (oc wt P H : List Int) (pl : Int) (kp : List Int) (u : Y) (e : Int) (ad : V) (cl : Nat) (w : Int) (s13 s14 s15 : Option LV) : LLoc :=
  [some (.ints ns), some (.ints sd), some (.int (cnt : Int)), some (.ints oc), some (.ints wt), some (.own u.mem), some (.ints P), some (.ints H), some (.int pl), some (.own kp), some (.mpu { (u.m e ad (.int 512)) with mem := [] } 5), some (.int (cl : Int)), some (.int w), s13, s14, s15, none]
section
variable {cf : Nat → List LV → Option LV} {ns sd oc wt P H kp : List Int} {cnt cl : Nat} {pl e w i : Int} {ad : V} {u u' : Y} {s13 s14 s15 : Option LV} {o wf : Nat → Int}
noncomputable def S2 (s14 s15 : Option LV) : Prop := (s14 = none ∧ s15 = none) ∨ ∃ a b, s14 = some (.int a) ∧ s15 = some (.bool b)
theorem stepM {j i0 : Nat} (hi : i0 = j) (s : ∀ e ad, ∃ w e' ad', callM cls deep j [] (u.m e ad (.int 512)) = some (w, u'.m e' ad' (.int 512))) (hl : u'.mem.length = 65536) :
    ∃ e' ad', exL cls iInit theFuel cf (.step 10 i0) (LM ns sd cnt oc wt P H pl kp u e ad cl w s13 s14 s15) = some (.next, LM ns sd cnt oc wt P H pl kp u' e' ad' cl w s13 s14 s15) := by
  subst hi
  obtain ⟨v, e', ad', h⟩ := s e ad
  refine ⟨e', ad', ?_⟩
  rw [exL_step]
  have e0 : stepL cls (LM ns sd cnt oc wt P H pl kp u e ad cl w s13 s14 s15) 10 i0 = (callM cls deep i0 [] (u.m e ad (.int 512))).bind fun r => cond (Nat.ble r.2.mem.length lim) (backL (LM ns sd cnt oc wt P H pl kp u e ad cl w s13 s14 s15) 10 5 r.2) none := by kernel_rfl
  rw [e0, h, Option.bind_some]
  dsimp only
  rw [show (u'.m e' ad' (.int 512)).mem = u'.mem from rfl, hl, show Nat.ble 65536 lim = true by kernel_rfl, cond_true]
  kernel_rfl
theorem step1 (s : Stp u u') (hl : u'.mem.length = 65536) : ∃ e' ad', exL cls iInit theFuel cf (.step 10 1) (LM ns sd cnt oc wt P H pl kp u e ad cl w s13 s14 s15) = some (.next, LM ns sd cnt oc wt P H pl kp u' e' ad' cl w s13 s14 s15) :=
  stepM (j := i_step) rfl (fun e ad => by obtain ⟨a, b, h⟩ := s e ad (.int 512); exact ⟨_, a, b, h⟩) hl
theorem stepI (s : Mth i_irq u u') (hl : u'.mem.length = 65536) : ∃ e' ad', exL cls iInit theFuel cf (.step 10 3) (LM ns sd cnt oc wt P H pl kp u e ad cl w s13 s14 s15) = some (.next, LM ns sd cnt oc wt P H pl kp u' e' ad' cl w s13 s14 s15) :=
  stepM (j := i_irq) rfl (fun e ad => s e ad (.int 512)) hl
theorem stepN (s : Mth i_nmi u u') (hl : u'.mem.length = 65536) : ∃ e' ad', exL cls iInit theFuel cf (.step 10 4) (LM ns sd cnt oc wt P H pl kp u e ad cl w s13 s14 s15) = some (.next, LM ns sd cnt oc wt P H pl kp u' e' ad' cl w s13 s14 s15) :=
  stepM (j := i_nmi) rfl (fun e ad => s e ad (.int 512)) hl
noncomputable def c0 : LS := (.asgT true [.name 14, .name 15] (.cons (.attr 10 .sp) (.cons (.cmp .ge (.attr 10 .pc) (.int 49152)) .nil)))
noncomputable def c1 : LS := (.ite (.not (.var 15)) (.cons (.sub 5 (.int 53248) (.idx (.var 3) (.var 11))) .nil) .nil)
noncomputable def c2 : LS := (.ite (.and (.cmp .eq (.bin .mod (.var 11) (.int 2)) (.int 1)) (.not (.var 15))) (.cons (.step 10 4) .nil) (.cons (.step 10 3) .nil))
noncomputable def c3 : LS := (.ite (.or (.and (.var 15) (.cmp .ne (.attr 10 .sp) (.var 14))) (.and (.not (.var 15)) (.cmp .ne (.attr 10 .pc) (.int 49152)))) (.cons (.ret (.bool false)) .nil) .nil)
noncomputable def c4 : LS := (.ite (.not (.var 15)) (.cons (.aug 11 .add (.int 1)) (.cons (.ite (.cmp .lt (.var 11) (.var 2)) (.cons (.asg 12 (.idx (.var 4) (.var 11))) .nil) .nil) .nil)) .nil)
noncomputable def b0 : LS := (.ite (.cmp .eq (.attr 10 .pc) (.int 563)) (.cons .brk .nil) .nil)
noncomputable def b1 : LS := (.ite (.and (.cmp .lt (.var 11) (.var 2)) (.cmp .le (.var 12) (.int 0))) (.cons c0 (.cons c1 (.cons c2 (.cons c3 (.cons c4 .nil))))) .nil)
noncomputable def b13 : LSs := (.cons b0 (.cons b1 (.cons (.aug 12 .sub (.int 1)) (.cons (.step 10 1) .nil))))
theorem s13_eq : s_law_13 = .for (.one 13) (.rng (.int 900)) b13 := by kernel_rfl
theorem t_c0 (hs : S2 s14 s15) : exL cls iInit theFuel cf c0 (LM ns sd cnt oc wt P H pl kp u e ad cl w (some (.int i)) s14 s15) = some (.next, LM ns sd cnt oc wt P H pl kp u e ad cl w (some (.int i)) (some (.int u.sp)) (some (.bool (COp.ev .ge u.pc 49152)))) := by
  rcases hs with ⟨rfl, rfl⟩ | ⟨a, b, rfl, rfl⟩ <;> kernel_rfl
theorem t_b0 (h : u.pc ≠ 563) : exL cls iInit theFuel cf b0 (LM ns sd cnt oc wt P H pl kp u e ad cl w s13 s14 s15) = some (.next, LM ns sd cnt oc wt P H pl kp u e ad cl w s13 s14 s15) := by
  unfold b0
  rw [exL_ite, show evL cf (.cmp .eq (.attr 10 .pc) (.int 563)) (LM ns sd cnt oc wt P H pl kp u e ad cl w s13 s14 s15) = some (.bool (COp.ev .eq u.pc 563)) by kernel_rfl, show COp.ev .eq u.pc 563 = false from decide_eq_false h]
  kernel_rfl
theorem t_b0' (h : u.pc = 563) : exL cls iInit theFuel cf b0 (LM ns sd cnt oc wt P H pl kp u e ad cl w s13 s14 s15) = some (.brk, LM ns sd cnt oc wt P H pl kp u e ad cl w s13 s14 s15) := by
  unfold b0
  rw [exL_ite, show evL cf (.cmp .eq (.attr 10 .pc) (.int 563)) (LM ns sd cnt oc wt P H pl kp u e ad cl w s13 s14 s15) = some (.bool (COp.ev .eq u.pc 563)) by kernel_rfl, show COp.ev .eq u.pc 563 = true from decide_eq_true h]
  kernel_rfl
theorem ev_b1 : evL cf (.and (.cmp .lt (.var 11) (.var 2)) (.cmp .le (.var 12) (.int 0))) (LM ns sd cnt oc wt P H pl kp u e ad cl w s13 s14 s15) = cond (COp.ev .lt (cl : Int) (cnt : Int)) (some (.bool (COp.ev .le w 0))) (some (.bool false)) := by kernel_rfl
theorem t_b1_no (h : ¬ (cl < cnt ∧ w ≤ 0)) : exL cls iInit theFuel cf b1 (LM ns sd cnt oc wt P H pl kp u e ad cl w s13 s14 s15) = some (.next, LM ns sd cnt oc wt P H pl kp u e ad cl w s13 s14 s15) := by
  have ev : evL cf (.and (.cmp .lt (.var 11) (.var 2)) (.cmp .le (.var 12) (.int 0))) (LM ns sd cnt oc wt P H pl kp u e ad cl w s13 s14 s15) = some (.bool false) := by
    rw [ev_b1]
    by_cases q : cl < cnt
    · rw [show COp.ev .lt (cl : Int) (cnt : Int) = true from decide_eq_true (by lia), cond_true, show COp.ev .le w 0 = false from decide_eq_false (fun z => h ⟨q, z⟩)]
    · rw [show COp.ev .lt (cl : Int) (cnt : Int) = false from decide_eq_false (by lia), cond_false]
  unfold b1
  rw [exL_ite, ev]
  kernel_rfl
theorem t_b1_go {ρ' : LLoc} (h1 : cl < cnt) (h2 : w ≤ 0) (h : exLs cls iInit theFuel cf (.cons c0 (.cons c1 (.cons c2 (.cons c3 (.cons c4 .nil))))) (LM ns sd cnt oc wt P H pl kp u e ad cl w s13 s14 s15) = some (.next, ρ')) : exL cls iInit theFuel cf b1 (LM ns sd cnt oc wt P H pl kp u e ad cl w s13 s14 s15) = some (.next, ρ') := by
  unfold b1
  rw [exL_ite, ev_b1, show COp.ev .lt (cl : Int) (cnt : Int) = true from decide_eq_true (by lia), cond_true, show COp.ev .le w 0 = true from decide_eq_true h2]
  exact h
theorem t_b2 (hs : S2 s14 s15) : exL cls iInit theFuel cf (.aug 12 .sub (.int 1)) (LM ns sd cnt oc wt P H pl kp u e ad cl w (some (.int i)) s14 s15) = some (.next, LM ns sd cnt oc wt P H pl kp u e ad cl (w - 1) (some (.int i)) s14 s15) := by
  rcases hs with ⟨rfl, rfl⟩ | ⟨a, b, rfl, rfl⟩ <;> kernel_rfl
end
end Mine

end
section
open PySem PySem.W PyProof.Rows
set_option maxRecDepth 100000
set_option maxHeartbeats 0
set_option linter.unusedSimpArgs false
set_option linter.unusedVariables false
set_option linter.unusedSectionVars false
namespace Mine
section
variable {cf : Nat → List LV → Option LV} {ns sd oc wt P H kp : List Int} {cnt cl : Nat} {pl e w i : Int} {ad : V} {u u' : Y} {s13 s14 s15 : Option LV} {o wf : Nat → Int}
theorem call_in (hs : S2 s14 s15) (I : Ins u) : ∃ e' ad' s14' s15', S2 s14' s15' ∧ exLs cls iInit theFuel cf (.cons c0 (.cons c1 (.cons c2 (.cons c3 (.cons c4 .nil))))) (LM ns sd cnt oc wt P H pl kp u e ad cl w (some (.int i)) s14 s15) = some (.next, LM ns sd cnt oc wt P H pl kp u e' ad' cl w (some (.int i)) s14' s15') := by
  obtain ⟨⟨hp, hi⟩, hl⟩ := I
  have s : Mth i_irq u u := by
    obtain ⟨pc, a, x, y, s, n, v, bb, d, i, z, c, cyc, m⟩ := u
    obtain rfl : i = true := hi
    exact s_irq_no
  have k0 := t_c0 (cf := cf) (ns := ns) (sd := sd) (cnt := cnt) (oc := oc) (wt := wt) (P := P) (H := H) (pl := pl) (kp := kp) (u := u) (e := e) (ad := ad) (cl := cl) (w := w) (i := i) hs
  rw [show COp.ev .ge u.pc 49152 = true from decide_eq_true hp] at k0
  obtain ⟨e', ad', h⟩ := stepI (cf := cf) (ns := ns) (sd := sd) (cnt := cnt) (oc := oc) (wt := wt) (P := P) (H := H) (pl := pl) (kp := kp) (e := e) (ad := ad) (cl := cl) (w := w) (s13 := some (.int i)) (s14 := some (.int u.sp)) (s15 := some (.bool true)) s hl
  refine ⟨e', ad', _, _, .inr ⟨u.sp, true, rfl, rfl⟩, (exLs_go k0).trans ?_⟩
  have k1 : exL cls iInit theFuel cf c1 (LM ns sd cnt oc wt P H pl kp u e ad cl w (some (.int i)) (some (.int u.sp)) (some (.bool true))) = some (.next, LM ns sd cnt oc wt P H pl kp u e ad cl w (some (.int i)) (some (.int u.sp)) (some (.bool true))) := by kernel_rfl
  have k2 : exL cls iInit theFuel cf c2 (LM ns sd cnt oc wt P H pl kp u e ad cl w (some (.int i)) (some (.int u.sp)) (some (.bool true))) = some (.next, LM ns sd cnt oc wt P H pl kp u e' ad' cl w (some (.int i)) (some (.int u.sp)) (some (.bool true))) := by
    unfold c2
    rw [exL_ite, show evL cf (.and (.cmp .eq (.bin .mod (.var 11) (.int 2)) (.int 1)) (.not (.var 15))) (LM ns sd cnt oc wt P H pl kp u e ad cl w (some (.int i)) (some (.int u.sp)) (some (.bool true))) = cond (COp.ev .eq ((cl : Int).fmod 2) 1) (some (.bool false)) (some (.bool false)) by kernel_rfl, show ∀ b : Bool, cond b (some (LV.bool false)) (some (LV.bool false)) = some (LV.bool false) from fun b => by cases b <;> rfl]
    exact (exLs_go h).trans (by kernel_rfl)
  have k3 : exL cls iInit theFuel cf c3 (LM ns sd cnt oc wt P H pl kp u e' ad' cl w (some (.int i)) (some (.int u.sp)) (some (.bool true))) = some (.next, LM ns sd cnt oc wt P H pl kp u e' ad' cl w (some (.int i)) (some (.int u.sp)) (some (.bool true))) := by
    unfold c3
    rw [exL_ite, show evL cf (.or (.and (.var 15) (.cmp .ne (.attr 10 .sp) (.var 14))) (.and (.not (.var 15)) (.cmp .ne (.attr 10 .pc) (.int 49152)))) (LM ns sd cnt oc wt P H pl kp u e' ad' cl w (some (.int i)) (some (.int u.sp)) (some (.bool true))) = cond (COp.ev .ne u.sp u.sp) (some (.bool true)) (some (.bool false)) by kernel_rfl, show COp.ev .ne u.sp u.sp = false from by show (!decide (u.sp = u.sp)) = false; rw [decide_eq_true rfl]; rfl]
    kernel_rfl
  have k4 : exL cls iInit theFuel cf c4 (LM ns sd cnt oc wt P H pl kp u e' ad' cl w (some (.int i)) (some (.int u.sp)) (some (.bool true))) = some (.next, LM ns sd cnt oc wt P H pl kp u e' ad' cl w (some (.int i)) (some (.int u.sp)) (some (.bool true))) := by kernel_rfl
  exact (exLs_go k1).trans ((exLs_go k2).trans ((exLs_go k3).trans ((exLs_go k4).trans (by kernel_rfl))))
end
end Mine

end
section
open PySem PySem.W PyProof.Rows
set_option maxRecDepth 100000
set_option maxHeartbeats 0
set_option linter.unusedSimpArgs false
set_option linter.unusedVariables false
set_option linter.unusedSectionVars false
namespace Mine
section
variable {cf : Nat → List LV → Option LV} {ns sd oc wt P H kp : List Int} {cnt cl : Nat} {pl e w i : Int} {ad : V} {u u' : Y} {s13 s14 s15 : Option LV} {o wf : Nat → Int}
theorem put_T {g : Nat → Int} {k : Int} {x : Int} (h0 : 0 ≤ k) (h1 : k < 65536) : putAt (T g) k x = some (T (upd g k.toNat x)) := by
  unfold putAt
  rw [T_len, if_pos ⟨h0, by lia⟩, set_T]
theorem ite_t {t : LE} {A B : LSs} {ρ : LLoc} (h : evL cf t ρ = some (.bool true)) : exL cls iInit theFuel cf (.ite t A B) ρ = exLs cls iInit theFuel cf A ρ := by rw [exL_ite, h]; kernel_rfl
theorem pick_tk {n k : Nat} (h : k < n) : pick (tk o n) (k : Int) = some (o k) := by
  unfold pick tk
  rw [if_pos (by lia), Int.toNat_natCast, List.getElem?_map, List.getElem?_range h]; rfl
theorem call_out {pc a x y sp cyc : Int} {n v bb d ii z c : Bool} {g : Nat → Int} (hs : S2 s14 s15) (hcl : cl < cnt) (hp : pc < 49152) (hu' : u'.pc = 49152 ∧ u'.mem.length = 65536)
    (en : Mth i_nmi ⟨pc, a, x, y, sp, n, v, bb, d, ii, z, c, cyc, T (upd g 53248 (o cl))⟩ u') (ei : Mth i_irq ⟨pc, a, x, y, sp, n, v, bb, d, ii, z, c, cyc, T (upd g 53248 (o cl))⟩ u') :
    ∃ e' ad' s14' s15', S2 s14' s15' ∧ exLs cls iInit theFuel cf (.cons c0 (.cons c1 (.cons c2 (.cons c3 (.cons c4 .nil))))) (LM ns sd cnt (tk o cnt) (tk wf cnt) P H pl kp ⟨pc, a, x, y, sp, n, v, bb, d, ii, z, c, cyc, T g⟩ e ad cl w (some (.int i)) s14 s15) = some (.next, LM ns sd cnt (tk o cnt) (tk wf cnt) P H pl kp u' e' ad' (cl + 1) (if cl + 1 < cnt then wf (cl + 1) else w) (some (.int i)) s14' s15') := by
  have k0 := t_c0 (cf := cf) (ns := ns) (sd := sd) (cnt := cnt) (oc := tk o cnt) (wt := tk wf cnt) (P := P) (H := H) (pl := pl) (kp := kp) (u := ⟨pc, a, x, y, sp, n, v, bb, d, ii, z, c, cyc, T g⟩) (e := e) (ad := ad) (cl := cl) (w := w) (i := i) hs
  rw [show COp.ev .ge (⟨pc, a, x, y, sp, n, v, bb, d, ii, z, c, cyc, T g⟩ : Y).pc 49152 = false from decide_eq_false (by show ¬ pc ≥ 49152; lia)] at k0
  have k1 : exL cls iInit theFuel cf c1 (LM ns sd cnt (tk o cnt) (tk wf cnt) P H pl kp ⟨pc, a, x, y, sp, n, v, bb, d, ii, z, c, cyc, T g⟩ e ad cl w (some (.int i)) (some (.int sp)) (some (.bool false))) = some (.next, LM ns sd cnt (tk o cnt) (tk wf cnt) P H pl kp ⟨pc, a, x, y, sp, n, v, bb, d, ii, z, c, cyc, T (upd g 53248 (o cl))⟩ e ad cl w (some (.int i)) (some (.int sp)) (some (.bool false))) := by
    unfold c1
    refine (ite_t (show evL cf (.not (.var 15)) (LM ns sd cnt (tk o cnt) (tk wf cnt) P H pl kp ⟨pc, a, x, y, sp, n, v, bb, d, ii, z, c, cyc, T g⟩ e ad cl w (some (.int i)) (some (.int sp)) (some (.bool false))) = some (.bool true) by kernel_rfl)).trans ?_
    have k : exL cls iInit theFuel cf (.sub 5 (.int 53248) (.idx (.var 3) (.var 11))) (LM ns sd cnt (tk o cnt) (tk wf cnt) P H pl kp ⟨pc, a, x, y, sp, n, v, bb, d, ii, z, c, cyc, T g⟩ e ad cl w (some (.int i)) (some (.int sp)) (some (.bool false))) = some (.next, LM ns sd cnt (tk o cnt) (tk wf cnt) P H pl kp ⟨pc, a, x, y, sp, n, v, bb, d, ii, z, c, cyc, T (upd g 53248 (o cl))⟩ e ad cl w (some (.int i)) (some (.int sp)) (some (.bool false))) := by
      have p : ∀ (k x' : Int), 0 ≤ k → k < 65536 → putSub (LM ns sd cnt (tk o cnt) (tk wf cnt) P H pl kp ⟨pc, a, x, y, sp, n, v, bb, d, ii, z, c, cyc, T g⟩ e ad cl w (some (.int i)) (some (.int sp)) (some (.bool false))) 5 k x' = some (LM ns sd cnt (tk o cnt) (tk wf cnt) P H pl kp ⟨pc, a, x, y, sp, n, v, bb, d, ii, z, c, cyc, T (upd g k.toNat x')⟩ e ad cl w (some (.int i)) (some (.int sp)) (some (.bool false))) := fun k x' h0 h1 => by
        have q0 : putSub (LM ns sd cnt (tk o cnt) (tk wf cnt) P H pl kp ⟨pc, a, x, y, sp, n, v, bb, d, ii, z, c, cyc, T g⟩ e ad cl w (some (.int i)) (some (.int sp)) (some (.bool false))) 5 k x' = (putAt (T g) k x').bind fun ys => setL (LM ns sd cnt (tk o cnt) (tk wf cnt) P H pl kp ⟨pc, a, x, y, sp, n, v, bb, d, ii, z, c, cyc, T g⟩ e ad cl w (some (.int i)) (some (.int sp)) (some (.bool false))) 5 (.own ys) := by kernel_rfl
        rw [q0, put_T h0 h1, Option.bind_some]; kernel_rfl
      rw [exL_sub, show evL cf (.idx (.var 3) (.var 11)) (LM ns sd cnt (tk o cnt) (tk wf cnt) P H pl kp ⟨pc, a, x, y, sp, n, v, bb, d, ii, z, c, cyc, T g⟩ e ad cl w (some (.int i)) (some (.int sp)) (some (.bool false))) = (pick (tk o cnt) (cl : Int)).map LV.int by kernel_rfl, pick_tk hcl, Option.map_some, Option.bind_some, show (LV.int (o cl)).int? = some (o cl) from rfl, Option.bind_some, show evL cf (.int 53248) (LM ns sd cnt (tk o cnt) (tk wf cnt) P H pl kp ⟨pc, a, x, y, sp, n, v, bb, d, ii, z, c, cyc, T g⟩ e ad cl w (some (.int i)) (some (.int sp)) (some (.bool false))) = some (.int 53248) by kernel_rfl, Option.bind_some, show (LV.int 53248).int? = some 53248 from rfl, Option.bind_some, p _ _ (by decide) (by decide)]
      rfl
    exact (exLs_go k).trans (by kernel_rfl)
  have k2 : ∃ e' ad', exL cls iInit theFuel cf c2 (LM ns sd cnt (tk o cnt) (tk wf cnt) P H pl kp ⟨pc, a, x, y, sp, n, v, bb, d, ii, z, c, cyc, T (upd g 53248 (o cl))⟩ e ad cl w (some (.int i)) (some (.int sp)) (some (.bool false))) = some (.next, LM ns sd cnt (tk o cnt) (tk wf cnt) P H pl kp u' e' ad' cl w (some (.int i)) (some (.int sp)) (some (.bool false))) := by
    have e0 : evL cf (.and (.cmp .eq (.bin .mod (.var 11) (.int 2)) (.int 1)) (.not (.var 15))) (LM ns sd cnt (tk o cnt) (tk wf cnt) P H pl kp ⟨pc, a, x, y, sp, n, v, bb, d, ii, z, c, cyc, T (upd g 53248 (o cl))⟩ e ad cl w (some (.int i)) (some (.int sp)) (some (.bool false))) = cond (COp.ev .eq ((cl : Int).fmod 2) 1) (some (.bool true)) (some (.bool false)) := by kernel_rfl
    cases q : COp.ev .eq ((cl : Int).fmod 2) 1
    · obtain ⟨e', ad', h⟩ := stepI (cf := cf) (ns := ns) (sd := sd) (cnt := cnt) (oc := tk o cnt) (wt := tk wf cnt) (P := P) (H := H) (pl := pl) (kp := kp) (e := e) (ad := ad) (cl := cl) (w := w) (s13 := some (.int i)) (s14 := some (.int sp)) (s15 := some (.bool false)) ei hu'.2
      refine ⟨e', ad', ?_⟩
      unfold c2
      rw [exL_ite, e0, q]
      exact (exLs_go h).trans (by kernel_rfl)
    · obtain ⟨e', ad', h⟩ := stepN (cf := cf) (ns := ns) (sd := sd) (cnt := cnt) (oc := tk o cnt) (wt := tk wf cnt) (P := P) (H := H) (pl := pl) (kp := kp) (e := e) (ad := ad) (cl := cl) (w := w) (s13 := some (.int i)) (s14 := some (.int sp)) (s15 := some (.bool false)) en hu'.2
      refine ⟨e', ad', ?_⟩
      unfold c2
      rw [exL_ite, e0, q]
      exact (exLs_go h).trans (by kernel_rfl)
  obtain ⟨e', ad', k2⟩ := k2
  have k3 : exL cls iInit theFuel cf c3 (LM ns sd cnt (tk o cnt) (tk wf cnt) P H pl kp u' e' ad' cl w (some (.int i)) (some (.int sp)) (some (.bool false))) = some (.next, LM ns sd cnt (tk o cnt) (tk wf cnt) P H pl kp u' e' ad' cl w (some (.int i)) (some (.int sp)) (some (.bool false))) := by
    unfold c3
    rw [exL_ite, show evL cf (.or (.and (.var 15) (.cmp .ne (.attr 10 .sp) (.var 14))) (.and (.not (.var 15)) (.cmp .ne (.attr 10 .pc) (.int 49152)))) (LM ns sd cnt (tk o cnt) (tk wf cnt) P H pl kp u' e' ad' cl w (some (.int i)) (some (.int sp)) (some (.bool false))) = some (.bool (COp.ev .ne u'.pc 49152)) by kernel_rfl, hu'.1]
    kernel_rfl
  have k4 : exL cls iInit theFuel cf c4 (LM ns sd cnt (tk o cnt) (tk wf cnt) P H pl kp u' e' ad' cl w (some (.int i)) (some (.int sp)) (some (.bool false))) = some (.next, LM ns sd cnt (tk o cnt) (tk wf cnt) P H pl kp u' e' ad' (cl + 1) (if cl + 1 < cnt then wf (cl + 1) else w) (some (.int i)) (some (.int sp)) (some (.bool false))) := by
    unfold c4
    refine (ite_t (show evL cf (.not (.var 15)) (LM ns sd cnt (tk o cnt) (tk wf cnt) P H pl kp u' e' ad' cl w (some (.int i)) (some (.int sp)) (some (.bool false))) = some (.bool true) by kernel_rfl)).trans ?_
    have q1 : exL cls iInit theFuel cf (.aug 11 .add (.int 1)) (LM ns sd cnt (tk o cnt) (tk wf cnt) P H pl kp u' e' ad' cl w (some (.int i)) (some (.int sp)) (some (.bool false))) = some (.next, LM ns sd cnt (tk o cnt) (tk wf cnt) P H pl kp u' e' ad' (cl + 1) w (some (.int i)) (some (.int sp)) (some (.bool false))) := by kernel_rfl
    refine (exLs_go q1).trans ?_
    have e1 : evL cf (.cmp .lt (.var 11) (.var 2)) (LM ns sd cnt (tk o cnt) (tk wf cnt) P H pl kp u' e' ad' (cl + 1) w (some (.int i)) (some (.int sp)) (some (.bool false))) = some (.bool (COp.ev .lt ((cl + 1 : Nat) : Int) (cnt : Int))) := by kernel_rfl
    by_cases q : cl + 1 < cnt
    · rw [if_pos q]
      have q2 : exL cls iInit theFuel cf (.ite (.cmp .lt (.var 11) (.var 2)) (.cons (.asg 12 (.idx (.var 4) (.var 11))) .nil) .nil) (LM ns sd cnt (tk o cnt) (tk wf cnt) P H pl kp u' e' ad' (cl + 1) w (some (.int i)) (some (.int sp)) (some (.bool false))) = some (.next, LM ns sd cnt (tk o cnt) (tk wf cnt) P H pl kp u' e' ad' (cl + 1) (wf (cl + 1)) (some (.int i)) (some (.int sp)) (some (.bool false))) := by
        rw [show COp.ev .lt ((cl + 1 : Nat) : Int) (cnt : Int) = true from decide_eq_true (by lia)] at e1
        refine (ite_t e1).trans ?_
        have q3 : exL cls iInit theFuel cf (.asg 12 (.idx (.var 4) (.var 11))) (LM ns sd cnt (tk o cnt) (tk wf cnt) P H pl kp u' e' ad' (cl + 1) w (some (.int i)) (some (.int sp)) (some (.bool false))) = some (.next, LM ns sd cnt (tk o cnt) (tk wf cnt) P H pl kp u' e' ad' (cl + 1) (wf (cl + 1)) (some (.int i)) (some (.int sp)) (some (.bool false))) := by
          rw [exL_asg, show evL cf (.idx (.var 4) (.var 11)) (LM ns sd cnt (tk o cnt) (tk wf cnt) P H pl kp u' e' ad' (cl + 1) w (some (.int i)) (some (.int sp)) (some (.bool false))) = (pick (tk wf cnt) ((cl + 1 : Nat) : Int)).map LV.int by kernel_rfl, pick_tk q]
          kernel_rfl
        exact (exLs_go q3).trans (by kernel_rfl)
      exact (exLs_go q2).trans (by kernel_rfl)
    · rw [if_neg q]
      have q2 : exL cls iInit theFuel cf (.ite (.cmp .lt (.var 11) (.var 2)) (.cons (.asg 12 (.idx (.var 4) (.var 11))) .nil) .nil) (LM ns sd cnt (tk o cnt) (tk wf cnt) P H pl kp u' e' ad' (cl + 1) w (some (.int i)) (some (.int sp)) (some (.bool false))) = some (.next, LM ns sd cnt (tk o cnt) (tk wf cnt) P H pl kp u' e' ad' (cl + 1) w (some (.int i)) (some (.int sp)) (some (.bool false))) := by
        rw [exL_ite, e1, show COp.ev .lt ((cl + 1 : Nat) : Int) (cnt : Int) = false from decide_eq_false (by lia)]
        kernel_rfl
      exact (exLs_go q2).trans (by kernel_rfl)
  exact ⟨e', ad', _, _, .inr ⟨sp, false, rfl, rfl⟩, (exLs_go k0).trans ((exLs_go k1).trans ((exLs_go k2).trans ((exLs_go k3).trans ((exLs_go k4).trans (by kernel_rfl)))))⟩
end
end Mine

end
section
open PySem PySem.W PyProof.Rows
set_option maxRecDepth 100000
set_option maxHeartbeats 0
set_option linter.unusedSimpArgs false
set_option linter.unusedVariables false
set_option linter.unusedSectionVars false
namespace Mine
theorem path_len {k : Nat} {u : Y} {r : Rg} {n v : Bool} {cyc : Int} {g : Nat → Int} (p : Path k u (Yo r n v cyc g)) : u.mem.length = 65536 := by
  cases p with
  | nil => exact T_len
  | cons s i r => exact i.2
theorem path_pc {k : Nat} {u u' : Y} (p : Path k u u') (h : u.pc < 49152) : k = 0 ∧ u = u' := by
  cases p with
  | nil => exact ⟨rfl, rfl⟩
  | cons s i r => exact absurd i.1.1 (by lia)
section
variable {cf : Nat → List LV → Option LV} {ns sd P H kp : List Int} {cnt cl : Nat} {pl e w i : Int} {ad : V} {u u' : Y} {s13 s14 s15 : Option LV} {o wf : Nat → Int}
theorem exLs_nil {ρ : LLoc} : exLs cls iInit theFuel cf .nil ρ = some (.next, ρ) := by kernel_rfl
theorem t_bind {oc wt : List Int} {x : Int} {s13 : Option LV} (hs : S2 s14 s15) (h13 : s13 = none ∨ ∃ x, s13 = some (.int x)) : bindTg (.one 13) (.int x) (LM ns sd cnt oc wt P H pl kp u e ad cl w s13 s14 s15) = some (LM ns sd cnt oc wt P H pl kp u e ad cl w (some (.int x)) s14 s15) := by
  rcases h13 with rfl | ⟨x, rfl⟩ <;> rcases hs with ⟨rfl, rfl⟩ | ⟨a, b, rfl, rfl⟩ <;> kernel_rfl
theorem turn {K : Prop} {F : Nat} (hc : 2 ≤ cnt ∧ cnt ≤ 5) (oo : ∀ i, Oct (o i)) (hw : ∀ j, wf j ≤ 16) (S : Sta cnt o F u cl w) (hs : S2 s14 s15) (hp : u.pc ≠ 563) (kk : ∀ u' e' ad' cl' w' s14' s15' F', S2 s14' s15' → exLs cls iInit theFuel cf b13 (LM ns sd cnt (tk o cnt) (tk wf cnt) P H pl kp u e ad cl w (some (.int i)) s14 s15) = some (.next, LM ns sd cnt (tk o cnt) (tk wf cnt) P H pl kp u' e' ad' cl' w' (some (.int i)) s14' s15') → Sta cnt o F' u' cl' w' → F' < F → K) : K := by
  obtain ⟨hle, k, rk, r, n, v, cyc, g, pa, pp, M, hF⟩ := S
  have k0 := t_b0 (cf := cf) (ns := ns) (sd := sd) (cnt := cnt) (oc := tk o cnt) (wt := tk wf cnt) (P := P) (H := H) (pl := pl) (kp := kp) (e := e) (ad := ad) (cl := cl) (w := w) (s13 := some (.int i)) (s14 := s14) (s15 := s15) hp
  cases pa with
  | nil =>
    by_cases hcall : cl < cnt ∧ w ≤ 0
    · obtain ⟨⟨l1, l2⟩, q, hq, eq⟩ := (pl_info pp).1
      obtain ⟨pc0, a0, x0, y0, sp0, z0, c0', kk0, hh0, ss0, rw0⟩ := r
      dsimp only at eq l1 l2
      subst eq
      have m : Mem cnt cl hh0 ss0 (o cl) (rgT o cl) rw0 (upd g 53248 (o cl)) := M.mem.sdev
      obtain ⟨en, ei⟩ := enter (pc := pc0) (a := a0) (x := x0) (y := y0) (n := n) (v := v) (z := z0) (c := c0') (cyc := cyc) hq m ⟨by lia, by lia⟩
      obtain ⟨cyc', hh, m'⟩ := handler (pc := pc0) (a := a0) (x := x0) (y := y0) (n := n) (v := v) (z := z0) (c := c0') (cyc := cyc + 7) hq (by lia) m rfl (oo cl) M.oa M.ox M.oy ⟨by lia, by lia⟩
      obtain ⟨e1, ad1, t14, t15, hs1, k1⟩ := call_out (cf := cf) (ns := ns) (sd := sd) (P := P) (H := H) (pl := pl) (kp := kp) (e := e) (ad := ad) (w := w) (i := i) (wf := wf) (g := g) hs hcall.1 l2 ⟨rfl, T_len⟩ en ei
      have k1 := t_b1_go hcall.1 hcall.2 k1
      cases hh with
      | cons s1 i1 rest =>
        have k2 := t_b2 (cf := cf) (ns := ns) (sd := sd) (cnt := cnt) (oc := tk o cnt) (wt := tk wf cnt) (P := P) (H := H) (pl := pl) (kp := kp) (u := ⟨49152, a0, x0, y0, (q : Int) - 3, n, v, false, false, true, z0, c0', cyc + 7, T (f1 (upd g 53248 (o cl)) q pc0 (pk n v false false false z0 c0'))⟩) (e := e1) (ad := ad1) (cl := cl + 1) (w := if cl + 1 < cnt then wf (cl + 1) else w) (i := i) hs1
        have pl' : Path 13 _ (Yo ⟨pc0, a0, x0, y0, (q : Int), z0, c0', kk0, hh0, ss0, rw0⟩ n v cyc' (f5 (upd g 53248 (o cl)) q pc0 (pk n v false false false z0 c0') a0 x0 cl (o cl))) := rest
        obtain ⟨e2, ad2, k3⟩ := step1 (cf := cf) (ns := ns) (sd := sd) (cnt := cnt) (oc := tk o cnt) (wt := tk wf cnt) (P := P) (H := H) (pl := pl) (kp := kp) (e := e1) (ad := ad1) (cl := cl + 1) (w := (if cl + 1 < cnt then wf (cl + 1) else w) - 1) (s13 := some (.int i)) (s14 := t14) (s15 := t15) s1 (path_len pl')
        refine kk _ e2 ad2 (cl + 1) ((if cl + 1 < cnt then wf (cl + 1) else w) - 1) t14 t15 _ hs1 ((exLs_go k0).trans ((exLs_go k1).trans ((exLs_go k2).trans ((exLs_go k3).trans exLs_nil)))) ⟨hcall.1, 13, rk, _, n, v, cyc', _, pl', pl_mono pp, ⟨?_, fun h => ?_, M.oa, M.ox, M.oy⟩, rfl⟩ ?_
        · have : dv o (cl + 1) = o cl := by unfold dv; rw [if_neg (by lia), Nat.add_sub_cancel]
          rw [this]; exact m'
        · have h254 : q = 254 := by have h : (q : Int) = 254 := h; lia
          rw [f5_511 h254, upd_ne (by decide)]
          exact M.stk h
        · have : ((if cl + 1 < cnt then wf (cl + 1) else w) - 1).toNat ≤ 15 := by
            split
            · have := hw (cl + 1); lia
            · lia
          lia
    · have k1 := t_b1_no (cf := cf) (ns := ns) (sd := sd) (cnt := cnt) (oc := tk o cnt) (wt := tk wf cnt) (P := P) (H := H) (pl := pl) (kp := kp) (u := Yo r n v cyc g) (e := e) (ad := ad) (cl := cl) (w := w) (s13 := some (.int i)) (s14 := s14) (s15 := s15) hcall
      have k2 := t_b2 (cf := cf) (ns := ns) (sd := sd) (cnt := cnt) (oc := tk o cnt) (wt := tk wf cnt) (P := P) (H := H) (pl := pl) (kp := kp) (u := Yo r n v cyc g) (e := e) (ad := ad) (cl := cl) (w := w) (i := i) hs
      obtain ⟨r', n', v', cyc', g', rk', s1, pp', M', hr⟩ := main_step (n := n) (v := v) (cyc := cyc) hc oo hle pp M hp
      obtain ⟨e2, ad2, k3⟩ := step1 (cf := cf) (ns := ns) (sd := sd) (cnt := cnt) (oc := tk o cnt) (wt := tk wf cnt) (P := P) (H := H) (pl := pl) (kp := kp) (e := e) (ad := ad) (cl := cl) (w := w - 1) (s13 := some (.int i)) (s14 := s14) (s15 := s15) s1 T_len
      refine kk _ e2 ad2 cl (w - 1) s14 s15 _ hs ((exLs_go k0).trans ((exLs_go k1).trans ((exLs_go k2).trans ((exLs_go k3).trans exLs_nil)))) ⟨hle, 0, rk', r', n', v', cyc', g', .nil _, pp', M', rfl⟩ ?_
      rcases hr with hr | ⟨hr, hl⟩ <;> lia
  | @cons _ u1 _ k' s1 i1 rest =>
    by_cases hcall : cl < cnt ∧ w ≤ 0
    · obtain ⟨e1, ad1, t14, t15, hs1, k1⟩ := call_in (cf := cf) (ns := ns) (sd := sd) (cnt := cnt) (oc := tk o cnt) (wt := tk wf cnt) (P := P) (H := H) (pl := pl) (kp := kp) (e := e) (ad := ad) (cl := cl) (w := w) (i := i) hs i1
      have k1 := t_b1_go hcall.1 hcall.2 k1
      have k2 := t_b2 (cf := cf) (ns := ns) (sd := sd) (cnt := cnt) (oc := tk o cnt) (wt := tk wf cnt) (P := P) (H := H) (pl := pl) (kp := kp) (u := u) (e := e1) (ad := ad1) (cl := cl) (w := w) (i := i) hs1
      obtain ⟨e2, ad2, k3⟩ := step1 (cf := cf) (ns := ns) (sd := sd) (cnt := cnt) (oc := tk o cnt) (wt := tk wf cnt) (P := P) (H := H) (pl := pl) (kp := kp) (e := e1) (ad := ad1) (cl := cl) (w := w - 1) (s13 := some (.int i)) (s14 := t14) (s15 := t15) s1 (path_len rest)
      refine kk u1 e2 ad2 cl (w - 1) t14 t15 _ hs1 ((exLs_go k0).trans ((exLs_go k1).trans ((exLs_go k2).trans ((exLs_go k3).trans exLs_nil)))) ⟨hle, k', rk, r, n, v, cyc, g, rest, pp, M, rfl⟩ ?_
      lia
    · have k1 := t_b1_no (cf := cf) (ns := ns) (sd := sd) (cnt := cnt) (oc := tk o cnt) (wt := tk wf cnt) (P := P) (H := H) (pl := pl) (kp := kp) (u := u) (e := e) (ad := ad) (cl := cl) (w := w) (s13 := some (.int i)) (s14 := s14) (s15 := s15) hcall
      have k2 := t_b2 (cf := cf) (ns := ns) (sd := sd) (cnt := cnt) (oc := tk o cnt) (wt := tk wf cnt) (P := P) (H := H) (pl := pl) (kp := kp) (u := u) (e := e) (ad := ad) (cl := cl) (w := w) (i := i) hs
      obtain ⟨e2, ad2, k3⟩ := step1 (cf := cf) (ns := ns) (sd := sd) (cnt := cnt) (oc := tk o cnt) (wt := tk wf cnt) (P := P) (H := H) (pl := pl) (kp := kp) (e := e) (ad := ad) (cl := cl) (w := w - 1) (s13 := some (.int i)) (s14 := s14) (s15 := s15) s1 (path_len rest)
      refine kk u1 e2 ad2 cl (w - 1) s14 s15 _ hs ((exLs_go k0).trans ((exLs_go k1).trans ((exLs_go k2).trans ((exLs_go k3).trans exLs_nil)))) ⟨hle, k', rk, r, n, v, cyc, g, rest, pp, M, rfl⟩ ?_
      lia
structure Fin (cnt : Nat) (o : Nat → Int) (u : Y) (cl : Nat) : Prop where
  cl : cl = cnt
  is : ∀ {K : Prop}, (∀ {x y k : Int} {rw : Nat → Int} {L : List Int} {n v : Bool} {cyc : Int} {g : Nat → Int}, u = Yo ⟨563, (cnt : Int), x, y, 255, true, true, k, cnt, cnt, rw⟩ n v cyc g → PF cnt o cnt cnt rw L → Cn cnt o cnt (dv o cnt) ⟨563, (cnt : Int), x, y, 255, true, true, k, cnt, cnt, rw⟩ g → K) → K
theorem fin_of {F : Nat} (S : Sta cnt o F u cl w) (h : u.pc = 563) : Fin cnt o u cl := by
  obtain ⟨hle, k, rk, r, n, v, cyc, g, pa, pp, M, hF⟩ := S
  obtain ⟨rfl, rfl⟩ := path_pc pa (by rw [h]; decide)
  obtain ⟨x, y, k, rw', L, w', rfl, rfl⟩ := (pl_info pp).2 h
  have e : cl = cnt := Nat.le_antisymm hle w'.ht
  subst e
  exact ⟨rfl, fun kk => kk rfl w' M⟩
theorem turns {K : Prop} (hc : 2 ≤ cnt ∧ cnt ≤ 5) (oo : ∀ i, Oct (o i)) (hw : ∀ j, wf j ≤ 16) : ∀ (m j F cl : Nat) (u : Y) (e w : Int) (ad : V) (s13 s14 s15 : Option LV), F < m → Sta cnt o F u cl w → S2 s14 s15 → (s13 = none ∨ ∃ x, s13 = some (.int x)) →
    (∀ u' e' ad' cl' w' z s14' s15', forL (bindTg (.one 13)) (fun ρ => exLs cls iInit theFuel cf b13 ρ) ((List.range' j m).map fun i : Nat => LV.int (i : Int)) (LM ns sd cnt (tk o cnt) (tk wf cnt) P H pl kp u e ad cl w s13 s14 s15) = some (.next, LM ns sd cnt (tk o cnt) (tk wf cnt) P H pl kp u' e' ad' cl' w' (some (.int z)) s14' s15') → Fin cnt o u' cl' → S2 s14' s15' → K) → K
  | 0, j, F, cl, u, e, w, ad, s13, s14, s15, hF, S, hs, h13, kk => absurd hF (Nat.not_lt_zero _)
  | m + 1, j, F, cl, u, e, w, ad, s13, s14, s15, hF, S, hs, h13, kk => by
    have bd : bindTg (.one 13) (.int (j : Int)) (LM ns sd cnt (tk o cnt) (tk wf cnt) P H pl kp u e ad cl w s13 s14 s15) = some (LM ns sd cnt (tk o cnt) (tk wf cnt) P H pl kp u e ad cl w (some (.int (j : Int))) s14 s15) := t_bind hs h13
    rw [List.range'_succ, List.map_cons] at kk
    by_cases hp : u.pc = 563
    · exact kk u e ad cl w (j : Int) s14 s15 (forL_brk bd (exLs_brk (t_b0' hp))) (fin_of S hp) hs
    · exact turn (cf := cf) (ns := ns) (sd := sd) (P := P) (H := H) (pl := pl) (kp := kp) (e := e) (ad := ad) (i := (j : Int)) hc oo hw S hs hp fun u1 e1 ad1 cl1 w1 t14 t15 F1 hs1 h1 S1 hF1 =>
        turns hc oo hw m (j + 1) F1 cl1 u1 e1 w1 ad1 (some (.int (j : Int))) t14 t15 (Nat.lt_of_lt_of_le hF1 (Nat.le_of_lt_succ hF)) S1 hs1 (.inr ⟨_, rfl⟩) fun u2 e2 ad2 cl2 w2 z t14' t15' h2 f2 hs2 =>
          kk u2 e2 ad2 cl2 w2 z t14' t15' ((forL_go bd h1).trans h2) f2 hs2
end
end Mine

end
section
open PySem PySem.W PyProof.Rows
set_option maxRecDepth 100000
set_option maxHeartbeats 0
set_option linter.unusedSimpArgs false
set_option linter.unusedVariables false
set_option linter.unusedSectionVars false
namespace Mine
theorem lim_eq : lim = 1048576 := by decide
noncomputable def LA (ns : List Int) (v1 v2 v3 v4 v5 v6 v7 v8 v9 : Option LV) : LLoc := [some (.ints ns), v1, v2, v3, v4, v5, v6, v7, v8, v9, none, none, none, none, none, none, none]
section
variable {cf : Nat → List LV → Option LV} {ρ ρ' : LLoc}
theorem mapO_of {α β γ : Type} {f : α → Option β} {u : γ → α} {w : γ → β} : ∀ (l : List γ), (∀ x ∈ l, f (u x) = some (w x)) → mapO f (l.map u) = some (l.map w)
  | [], _ => rfl
  | x :: l, h => by
    show (f (u x)).bind (fun b => (mapO f (l.map u)).map fun r => b :: r) = _
    rw [h x (List.mem_cons_self ..), Option.bind_some, mapO_of l fun y hy => h y (List.mem_cons_of_mem _ hy)]; rfl
theorem comp_of {elt : LE} {caps : List Nat} {src : LSrc} {xs ys : List Int} (hs : evSrc cf src ρ = some (xs.map LV.int)) (h : mapO (fun it => (evL cf elt (maskL caps ρ ++ [some it])).bind LV.int?) (xs.map LV.int) = some ys) : evL cf (.comp elt caps src) ρ = some (.ints ys) := by
  have : mapO asInt (xs.map LV.int) = some xs := by
    clear hs h
    induction xs with
    | nil => rfl
    | cons x l ih => show (mapO asInt (l.map LV.int)).map _ = _; rw [ih]; rfl
  rw [evL_comp, hs, Option.bind_some, this, Option.bind_some, h]; rfl
theorem asg_of {v : Nat} {e : LE} {x : LV} {ρ' : LLoc} (h : evL cf e ρ = some x) (hp : putV ρ v x = some ρ') : exL cls iInit theFuel cf (.asg v e) ρ = some (.next, ρ') := by
  rw [exL_asg, h, Option.bind_some, hp]; rfl
theorem asgC_of {v : Nat} {e : LE} {x : LV} {ρ' : LLoc} (h : evL cf e ρ = some x) (hp : putV ρ v x = some ρ') : exL cls iInit theFuel cf (.asgC v e) ρ = some (.next, ρ') := by
  rw [exL_asgC, h, Option.bind_some, hp]; rfl
theorem bin_int {op : LOp} {a b : LE} {x y r : Int} (h1 : evL cf a ρ = some (.int x)) (h2 : evL cf b ρ = some (.int y)) (h : op.ev x y = some r) : evL cf (.bin op a b) ρ = some (.int r) := by
  rw [evL_bin, h1, Option.bind_some, h2, Option.bind_some]
  show (op.ev x y).map LV.int = _
  rw [h]; rfl
theorem add_i {a b : LE} {x y : Int} (h1 : evL cf a ρ = some (.int x)) (h2 : evL cf b ρ = some (.int y)) : evL cf (.bin .add a b) ρ = some (.int (x + y)) := bin_int h1 h2 rfl
theorem mul_r {a b : LE} {x y : Int} (h1 : evL cf a ρ = some (.int x)) (h2 : evL cf b ρ = some (.int y)) (h : x.natAbs < 2 ^ 63 ∨ y.natAbs < 2 ^ 63) : evL cf (.bin .mul a b) ρ = some (.int (x * y)) := bin_int h1 h2 (if_pos h)
theorem mod_i {a b : LE} {x y : Int} (h1 : evL cf a ρ = some (.int x)) (h2 : evL cf b ρ = some (.int y)) (h : 0 < y) : evL cf (.bin .mod a b) ρ = some (.int (x % y)) :=
  bin_int h1 h2 ((if_pos (Int.ne_of_gt h)).trans (by rw [Int.fmod_eq_emod_of_nonneg _ (Int.le_of_lt h)]))
theorem div_i {a b : LE} {x y : Int} (h1 : evL cf a ρ = some (.int x)) (h2 : evL cf b ρ = some (.int y)) (h : 0 < y) (h' : y.natAbs < 1073741824) : evL cf (.bin .fdiv a b) ρ = some (.int (x / y)) :=
  bin_int h1 h2 ((if_pos ⟨Int.ne_of_gt h, h'⟩).trans (by rw [Int.fdiv_eq_ediv_of_nonneg _ (Int.le_of_lt h)]))
theorem int_i {i : Int} : evL cf (.int i) ρ = some (.int i) := by kernel_rfl
theorem cutI_ns {xs : List Int} {b : Int} : cutI xs none (some b) = xs.take (clipAt xs.length b) := by
  show ((xs.drop 0).take (clipAt xs.length b - 0)) = _
  rw [List.drop_zero, Nat.sub_zero]
theorem cut_le (xs : List Int) (k : Nat) : (cutI xs none (some (k : Int))).length ≤ k := by
  rw [cutI_ns, List.length_take]
  have : clipAt xs.length (k : Int) ≤ k := by
    have := clipAt_cast xs.length (k : Int)
    lia
  lia
theorem cat_ok {xs ys : List Int} (h : (xs ++ ys).length ≤ lim) : binV .add (.ints xs) (.ints ys) = some (.ints (xs ++ ys)) := by
  show orO (if LOp.add = .add ∧ (xs ++ ys).length ≤ lim then some (LV.ints (xs ++ ys)) else none) _ = _
  rw [if_pos ⟨rfl, h⟩]; rfl
theorem h0 (ns : List Int) : ∃ S0 S', (S0 :: S').length ≤ 25 ∧ exL cls iInit theFuel cf s_law_0 (LA ns none none none none none none none none none) = some (.next, LA ns (some (.ints (S0 :: S'))) none none none none none none none none) := by
  have e1 : evL cf (.comp (.bin .mod (.var 17) (.int 65536)) [] (.lst (.slc (.var 0) .none (.int 24)))) (LA ns none none none none none none none none none) = some (.ints ((cutI ns none (some 24)).map fun x => x.fmod 65536)) :=
    comp_of (by kernel_rfl) (mapO_of _ fun x _ => by kernel_rfl)
  have e2 : evL cf (.disp (.cons (.bin .add (.len (.slc (.var 0) .none (.int 64))) (.int 5)) .nil)) (LA ns none none none none none none none none none) = some (.ints [((cutI ns none (some 64)).length : Int) + 5]) := by kernel_rfl
  have hl : ((cutI ns none (some 24)).map (fun x => x.fmod 65536) ++ [((cutI ns none (some 64)).length : Int) + 5]).length ≤ 25 := by
    have := cut_le ns 24
    rw [List.length_append, List.length_map, List.length_singleton]
    exact Nat.succ_le_succ this
  have e3 : binV .add (.ints ((cutI ns none (some 24)).map fun x => x.fmod 65536)) (.ints [((cutI ns none (some 64)).length : Int) + 5]) = some (.ints ((cutI ns none (some 24)).map (fun x => x.fmod 65536) ++ [((cutI ns none (some 64)).length : Int) + 5])) := by
    exact cat_ok (Nat.le_trans hl (by decide))
  have hne : (cutI ns none (some 24)).map (fun x => x.fmod 65536) ++ [((cutI ns none (some 64)).length : Int) + 5] ≠ [] := by simp
  generalize (cutI ns none (some 24)).map (fun x => x.fmod 65536) ++ [((cutI ns none (some 64)).length : Int) + 5] = L at hl e3 hne
  cases L with
  | nil => exact absurd rfl hne
  | cons S0 S' =>
    refine ⟨S0, S', hl, asg_of (x := .ints (S0 :: S')) ?_ (by kernel_rfl)⟩
    rw [evL_bin, e1, Option.bind_some, e2, Option.bind_some]
    exact e3
theorem h1 {ns S : List Int} : ∃ cnt : Nat, (2 ≤ cnt ∧ cnt ≤ 5) ∧ exL cls iInit theFuel cf s_law_1 (LA ns (some (.ints S)) none none none none none none none none) = some (.next, LA ns (some (.ints S)) (some (.int (cnt : Int))) none none none none none none none) := by
  have : (cutI ns none (some 3)).length ≤ 3 := cut_le ns 3
  refine ⟨2 + (cutI ns none (some 3)).length, by lia, ?_⟩
  have : exL cls iInit theFuel cf s_law_1 (LA ns (some (.ints S)) none none none none none none none none) = some (.next, LA ns (some (.ints S)) (some (.int (2 + ((cutI ns none (some 3)).length : Int)))) none none none none none none none) := by kernel_rfl
  rw [this, Int.natCast_add]; rfl
theorem rng_n {n : Nat} {e : LE} (h : evL cf e ρ = some (.int (n : Int))) (hn : n ≤ lim) : evSrc cf (.rng e) ρ = some ((List.range n).map fun i : Nat => LV.int (i : Int)) := by
  show (evL cf e ρ).bind (fun x => x.int?.bind fun n => rngItems n) = _
  rw [h, Option.bind_some]
  show rngItems (n : Int) = _
  unfold rngItems
  rw [if_pos ⟨by lia, by rw [lim_eq] at hn ⊢; lia⟩, Int.toNat_natCast]
noncomputable def sdv (S : List Int) (i : Nat) : Int := S.getD (i % S.length) 0
theorem seed {S0 : Int} {S' : List Int} {i : Nat} {ρ : LLoc} (h1 : evL cf (.var 1) ρ = some (.ints (S0 :: S'))) (h17 : evL cf (.var 17) ρ = some (.int (i : Int))) : evL cf (.idx (.var 1) (.bin .mod (.var 17) (.len (.var 1)))) ρ = some (.int (sdv (S0 :: S') i)) := by
  have hl : evL cf (.len (.var 1)) ρ = some (.int (((S0 :: S').length : Nat) : Int)) := by
    show (evL cf (.var 1) ρ).bind (fun x => x.ints?.map fun xs => LV.int xs.length) = _
    rw [h1]; rfl
  have hp : 0 < (S0 :: S').length := Nat.succ_pos _
  have hlt : i % (S0 :: S').length < (S0 :: S').length := Nat.mod_lt _ hp
  rw [evL_idx, h1, Option.bind_some, mod_i h17 hl (by lia), Option.bind_some, show (i : Int) % (((S0 :: S').length : Nat) : Int) = ((i % (S0 :: S').length : Nat) : Int) by lia]
  show (pick (S0 :: S') _).map LV.int = _
  unfold pick sdv
  rw [if_pos (Int.natCast_nonneg _), Int.toNat_natCast, List.getD_eq_getElem?_getD, List.getElem?_eq_getElem hlt]; rfl
noncomputable def oF (S : List Int) (i : Nat) : Int := (sdv S i + sdv S i / 256 + 83 * (i : Int)) % 256
noncomputable def wF (S : List Int) (i : Nat) : Int := 1 + (sdv S i / 3 + 5 * (i : Int)) % 16
theorem comp_tk {elt : LE} {n : Nat} {e : LE} {f : Nat → Int} {caps : List Nat} (he : evL cf e ρ = some (.int (n : Int))) (hn : n ≤ lim) (h : ∀ i : Nat, evL cf elt (maskL caps ρ ++ [some (.int (i : Int))]) = some (.int (f i))) : evL cf (.comp elt caps (.rng e)) ρ = some (.ints (tk f n)) := by
  refine comp_of (xs := (List.range n).map fun i : Nat => (i : Int)) ?_ ?_
  · rw [rng_n he hn, List.map_map]; rfl
  · rw [List.map_map]
    exact mapO_of (u := fun i : Nat => LV.int (i : Int)) (w := f) (List.range n) fun i _ => by rw [h]; rfl
theorem h2 {ns S' : List Int} {S0 : Int} {cnt : Nat} (hc : 2 ≤ cnt ∧ cnt ≤ 5) : exL cls iInit theFuel cf s_law_2 (LA ns (some (.ints (S0 :: S'))) (some (.int (cnt : Int))) none none none none none none none) = some (.next, LA ns (some (.ints (S0 :: S'))) (some (.int (cnt : Int))) (some (.ints (tk (oF (S0 :: S')) cnt))) none none none none none none) := by
  have e : evL cf (.comp (.bin .mod (.bin .add (.bin .add (.idx (.var 1) (.bin .mod (.var 17) (.len (.var 1)))) (.bin .fdiv (.idx (.var 1) (.bin .mod (.var 17) (.len (.var 1)))) (.int 256))) (.bin .mul (.int 83) (.var 17))) (.int 256)) [1] (.rng (.var 2))) (LA ns (some (.ints (S0 :: S'))) (some (.int (cnt : Int))) none none none none none none none) = some (.ints (tk (oF (S0 :: S')) cnt)) :=
    comp_tk (by kernel_rfl) (by rw [lim_eq]; lia) fun i => by
      have h17 : evL cf (.var 17) (maskL [1] (LA ns (some (.ints (S0 :: S'))) (some (.int (cnt : Int))) none none none none none none none) ++ [some (.int (i : Int))]) = some (.int (i : Int)) := by kernel_rfl
      have sd := seed (cf := cf) (S0 := S0) (S' := S') (i := i) (ρ := maskL [1] (LA ns (some (.ints (S0 :: S'))) (some (.int (cnt : Int))) none none none none none none none) ++ [some (.int (i : Int))]) (by kernel_rfl) h17
      exact mod_i (add_i (add_i sd (div_i sd int_i (by decide) (by decide))) (mul_r int_i h17 (.inl (by decide)))) int_i (by decide)
  exact asgC_of (x := .ints (tk (oF (S0 :: S')) cnt)) e (by kernel_rfl)
theorem h3 {ns S' oc : List Int} {S0 : Int} {cnt : Nat} (hc : 2 ≤ cnt ∧ cnt ≤ 5) : exL cls iInit theFuel cf s_law_3 (LA ns (some (.ints (S0 :: S'))) (some (.int (cnt : Int))) (some (.ints oc)) none none none none none none) = some (.next, LA ns (some (.ints (S0 :: S'))) (some (.int (cnt : Int))) (some (.ints oc)) (some (.ints (tk (wF (S0 :: S')) cnt))) none none none none none) := by
  have e : evL cf (.comp (.bin .add (.int 1) (.bin .mod (.bin .add (.bin .fdiv (.idx (.var 1) (.bin .mod (.var 17) (.len (.var 1)))) (.int 3)) (.bin .mul (.int 5) (.var 17))) (.int 16))) [1] (.rng (.var 2))) (LA ns (some (.ints (S0 :: S'))) (some (.int (cnt : Int))) (some (.ints oc)) none none none none none none) = some (.ints (tk (wF (S0 :: S')) cnt)) :=
    comp_tk (by kernel_rfl) (by rw [lim_eq]; lia) fun i => by
      have h17 : evL cf (.var 17) (maskL [1] (LA ns (some (.ints (S0 :: S'))) (some (.int (cnt : Int))) (some (.ints oc)) none none none none none none) ++ [some (.int (i : Int))]) = some (.int (i : Int)) := by kernel_rfl
      have sd := seed (cf := cf) (S0 := S0) (S' := S') (i := i) (ρ := maskL [1] (LA ns (some (.ints (S0 :: S'))) (some (.int (cnt : Int))) (some (.ints oc)) none none none none none none) ++ [some (.int (i : Int))]) (by kernel_rfl) h17
      exact add_i int_i (mod_i (add_i (div_i sd int_i (by decide) (by decide)) (mul_r int_i h17 (.inl (by decide)))) int_i (by decide))
  exact asgC_of (x := .ints (tk (wF (S0 :: S')) cnt)) e (by kernel_rfl)
theorem zeros_T : repeatL [0] 65536 = T g00 := by
  have e : repeatL [0] 65536 = List.replicate 65536 0 := by
    unfold repeatL
    exact List.flatten_replicate_singleton
  rw [e]
  apply List.ext_getElem?
  intro k
  by_cases h : k < 65536
  · rw [T_get h, List.getElem?_replicate, if_pos h]
  · rw [List.getElem?_eq_none (by rw [List.length_replicate]; lia), List.getElem?_eq_none (by rw [T_len]; lia)]
variable {ns S oc wt : List Int} {cnt : Nat}
theorem h4 : exL cls iInit theFuel cf s_law_4 (LA ns (some (.ints S)) (some (.int (cnt : Int))) (some (.ints oc)) (some (.ints wt)) none none none none none) = some (.next, LA ns (some (.ints S)) (some (.int (cnt : Int))) (some (.ints oc)) (some (.ints wt)) (some (.own (T g00))) none none none none) := by
  rw [← zeros_T]; kernel_rfl
theorem h5 {m : List Int} : exL cls iInit theFuel cf s_law_5 (LA ns (some (.ints S)) (some (.int (cnt : Int))) (some (.ints oc)) (some (.ints wt)) (some (.own m)) none none none none) = some (.next, LA ns (some (.ints S)) (some (.int (cnt : Int))) (some (.ints oc)) (some (.ints wt)) (some (.own m)) (some (.ints (C01 (cnt : Int)))) none none none) := by kernel_rfl
theorem h6 {m P : List Int} : exL cls iInit theFuel cf s_law_6 (LA ns (some (.ints S)) (some (.int (cnt : Int))) (some (.ints oc)) (some (.ints wt)) (some (.own m)) (some (.ints P)) none none none) = some (.next, LA ns (some (.ints S)) (some (.int (cnt : Int))) (some (.ints oc)) (some (.ints wt)) (some (.own m)) (some (.ints P)) (some (.ints Hd01)) none none) := by kernel_rfl
theorem layL {w : Nat} {L P Hh : List Int} {b : Int} {g : Nat → Int} {pl : Option LV} (hw : (w = 6 ∧ P = L) ∨ (w = 7 ∧ Hh = L)) (hb : 0 ≤ b) (hl : b + L.length ≤ 65536) (hpl : pl = none ∨ ∃ t, pl = some (.int t)) :
    ∃ t, exL cls iInit theFuel cf (.for (.one 8) (.rng (.len (.var w))) (.cons (.sub 5 (.bin .add (.int b) (.var 8)) (.idx (.var w) (.var 8))) .nil)) (LA ns (some (.ints S)) (some (.int (cnt : Int))) (some (.ints oc)) (some (.ints wt)) (some (.own (T g))) (some (.ints P)) (some (.ints Hh)) pl none) = some (.next, LA ns (some (.ints S)) (some (.int (cnt : Int))) (some (.ints oc)) (some (.ints wt)) (some (.own (T (wr g b.toNat L L.length)))) (some (.ints P)) (some (.ints Hh)) t none) ∧ (t = none ∨ ∃ x, t = some (.int x)) ∧ (0 < L.length → ∃ x, t = some (.int x)) := by
  obtain ⟨ρ', h1, t, rfl, ht⟩ := for_inv (c := cls) (im := iInit) (fuel := theFuel) (cf := cf) (v := 8) (n := L.length) (e := .len (.var w)) (b := .cons (.sub 5 (.bin .add (.int b) (.var 8)) (.idx (.var w) (.var 8))) .nil)
    (ρ := LA ns (some (.ints S)) (some (.int (cnt : Int))) (some (.ints oc)) (some (.ints wt)) (some (.own (T g))) (some (.ints P)) (some (.ints Hh)) pl none)
    (fun i ρ => ∃ t, ρ = LA ns (some (.ints S)) (some (.int (cnt : Int))) (some (.ints oc)) (some (.ints wt)) (some (.own (T (wr g b.toNat L i)))) (some (.ints P)) (some (.ints Hh)) t none ∧ (t = none ∨ ∃ x, t = some (.int x)) ∧ (0 < i → ∃ x, t = some (.int x)))
    (by rcases hw with ⟨rfl, rfl⟩ | ⟨rfl, rfl⟩ <;> kernel_rfl) (Nat.le_trans (by lia) (show 65536 ≤ lim by decide)) ⟨pl, by rw [wr_0], hpl, fun h => absurd h (Nat.lt_irrefl 0)⟩ (fun i ρ hi ⟨t, e, ht, _⟩ => by
      subst e
      refine ⟨LA ns (some (.ints S)) (some (.int (cnt : Int))) (some (.ints oc)) (some (.ints wt)) (some (.own (T (wr g b.toNat L i)))) (some (.ints P)) (some (.ints Hh)) (some (.int i)) none, LA ns (some (.ints S)) (some (.int (cnt : Int))) (some (.ints oc)) (some (.ints wt)) (some (.own (T (wr g b.toNat L (i + 1))))) (some (.ints P)) (some (.ints Hh)) (some (.int i)) none, ?_, ?_, ⟨_, rfl, .inr ⟨_, rfl⟩, fun _ => ⟨_, rfl⟩⟩⟩
      · rcases ht with rfl | ⟨x, rfl⟩ <;> kernel_rfl
      · have v1 : evL cf (.idx (.var w) (.var 8)) (LA ns (some (.ints S)) (some (.int (cnt : Int))) (some (.ints oc)) (some (.ints wt)) (some (.own (T (wr g b.toNat L i)))) (some (.ints P)) (some (.ints Hh)) (some (.int i)) none) = some (.int (L.getD i 0)) := by
          have : evL cf (.idx (.var w) (.var 8)) (LA ns (some (.ints S)) (some (.int (cnt : Int))) (some (.ints oc)) (some (.ints wt)) (some (.own (T (wr g b.toNat L i)))) (some (.ints P)) (some (.ints Hh)) (some (.int i)) none) = (pick L (i : Int)).map LV.int := by
            rcases hw with ⟨rfl, rfl⟩ | ⟨rfl, rfl⟩ <;> kernel_rfl
          rw [this]
          unfold pick
          rw [if_pos (by lia), Int.toNat_natCast, List.getElem?_eq_getElem hi, List.getD_eq_getElem?_getD, List.getElem?_eq_getElem hi]; rfl
        have p : ∀ (k x' : Int), 0 ≤ k → k < 65536 → putSub (LA ns (some (.ints S)) (some (.int (cnt : Int))) (some (.ints oc)) (some (.ints wt)) (some (.own (T (wr g b.toNat L i)))) (some (.ints P)) (some (.ints Hh)) (some (.int i)) none) 5 k x' = some (LA ns (some (.ints S)) (some (.int (cnt : Int))) (some (.ints oc)) (some (.ints wt)) (some (.own (T (upd (wr g b.toNat L i) k.toNat x')))) (some (.ints P)) (some (.ints Hh)) (some (.int i)) none) := fun k x' h0 h1 => by
          have q0 : putSub (LA ns (some (.ints S)) (some (.int (cnt : Int))) (some (.ints oc)) (some (.ints wt)) (some (.own (T (wr g b.toNat L i)))) (some (.ints P)) (some (.ints Hh)) (some (.int i)) none) 5 k x' = (putAt (T (wr g b.toNat L i)) k x').bind fun ys => setL (LA ns (some (.ints S)) (some (.int (cnt : Int))) (some (.ints oc)) (some (.ints wt)) (some (.own (T (wr g b.toNat L i)))) (some (.ints P)) (some (.ints Hh)) (some (.int i)) none) 5 (.own ys) := by kernel_rfl
          rw [q0, put_T h0 h1, Option.bind_some]; kernel_rfl
        refine (exLs_go (ρ' := LA ns (some (.ints S)) (some (.int (cnt : Int))) (some (.ints oc)) (some (.ints wt)) (some (.own (T (wr g b.toNat L (i + 1))))) (some (.ints P)) (some (.ints Hh)) (some (.int i)) none) ?_).trans (by kernel_rfl)
        rw [exL_sub, v1, Option.bind_some, show (LV.int (L.getD i 0)).int? = some (L.getD i 0) from rfl, Option.bind_some, show evL cf (.bin .add (.int b) (.var 8)) (LA ns (some (.ints S)) (some (.int (cnt : Int))) (some (.ints oc)) (some (.ints wt)) (some (.own (T (wr g b.toNat L i)))) (some (.ints P)) (some (.ints Hh)) (some (.int i)) none) = some (.int (b + i)) by kernel_rfl, Option.bind_some, show (LV.int (b + (i : Int))).int? = some (b + i) from rfl, Option.bind_some, p _ _ (by lia) (by lia), show (b + (i : Int)).toNat = b.toNat + i by lia, wr_succ]
        rfl)
  exact ⟨t, h1, ht⟩
end
end Mine

end
section
open PySem PySem.W PyProof.Rows
set_option maxRecDepth 100000
set_option maxHeartbeats 0
set_option linter.unusedSimpArgs false
set_option linter.unusedVariables false
set_option linter.unusedSectionVars false
namespace Mine
noncomputable def LK (ns sd : List Int) (cnt : Nat) (oc wt P H : List Int) (pl : Int) (kp : List Int) (u : Y) : LLoc :=
  [some (.ints ns), some (.ints sd), some (.int (cnt : Int)), some (.ints oc), some (.ints wt), some (.own u.mem), some (.ints P), some (.ints H), some (.int pl), some (.own kp), some (.mpu { (u.m 0 (.bool false) (.int 512)) with mem := [] } 5), none, none, none, none, none, none]
noncomputable def LE1 (ns sd : List Int) (cnt : Nat) (oc wt P H : List Int) (pl : Int) (kp : List Int) (u : Y) (e : Int) (ad : V) (cl : Nat) (w s13 : Int) (s14 s15 s16 : Option LV) : LLoc :=
  [some (.ints ns), some (.ints sd), some (.int (cnt : Int)), some (.ints oc), some (.ints wt), some (.own u.mem), some (.ints P), some (.ints H), some (.int pl), some (.own kp), some (.mpu { (u.m e ad (.int 512)) with mem := [] } 5), some (.int (cl : Int)), some (.int w), some (.int s13), s14, s15, s16]
noncomputable def Y0 (m : List Int) : Y := ⟨512, 0, 0, 0, 255, false, false, true, false, false, false, false, 0, m⟩
section
variable {cf : Nat → List LV → Option LV} {ρ ρ' : LLoc} {ns sd oc wt P H kp : List Int} {cnt cl : Nat} {pl e w s13 : Int} {ad : V} {u : Y} {s14 s15 s16 : Option LV} {o wf : Nat → Int} {g gk : Nat → Int}
theorem putSub_ok {v : Nat} {k x : Int} (h : ρ.at v = some (.own (T g))) (h0 : 0 ≤ k) (h1 : k < 65536) (hs : setL ρ v (.own (T (upd g k.toNat x))) = some ρ') : putSub ρ v k x = some ρ' := by
  have q0 : putSub ρ v k x = (ρ.at v).bind fun u => u.own?.bind fun xs => (putAt xs k x).bind fun ys => setL ρ v (.own ys) := by kernel_rfl
  rw [q0, h, Option.bind_some, show (LV.own (T g)).own? = some (T g) from rfl, Option.bind_some, put_T h0 h1, Option.bind_some, hs]
theorem sub_ok {v : Nat} {i e : LE} {k x : Int} (h : ρ.at v = some (.own (T g))) (hx : evL cf e ρ = some (.int x)) (hk : evL cf i ρ = some (.int k)) (h0 : 0 ≤ k) (h1 : k < 65536) (hs : setL ρ v (.own (T (upd g k.toNat x))) = some ρ') : exL cls iInit theFuel cf (.sub v i e) ρ = some (.next, ρ') := by
  rw [exL_sub, hx, Option.bind_some, show (LV.int x).int? = some x from rfl, Option.bind_some, hk, Option.bind_some, show (LV.int k).int? = some k from rfl, Option.bind_some, putSub_ok h h0 h1 hs]; rfl
theorem st_sub {v : Nat} {k m : Int} {vs : List LV} {ts : List LT} (h : putSub ρ v k m = some ρ') : storeTs cf (LV.int m :: vs) (.sub v (.int k) :: ts) ρ = storeTs cf vs ts ρ' := by
  have q0 : storeTs cf (LV.int m :: vs) (.sub v (.int k) :: ts) ρ = (putSub ρ v k m).bind fun ρ' => storeTs cf vs ts ρ' := by kernel_rfl
  rw [q0, h, Option.bind_some]
theorem asgN_ok {ts : List LT} {e : LE} {x : Int} (hx : evL cf e ρ = some (.int x)) (h : storeTs cf (List.replicate ts.length (LV.int x)) ts ρ = some ρ') : exL cls iInit theFuel cf (.asgN ts e) ρ = some (.next, ρ') := by
  have q0 : exL cls iInit theFuel cf (.asgN ts e) ρ = (evL cf e ρ).bind fun u => u.int?.bind fun x => (storeTs cf (List.replicate ts.length (LV.int x)) ts ρ).map fun ρ' => (.next, ρ') := by kernel_rfl
  rw [q0, hx, Option.bind_some, show (LV.int x).int? = some x from rfl, Option.bind_some, h]; rfl
theorem h9 : exL cls iInit theFuel cf s_law_9 (LA ns (some (.ints sd)) (some (.int (cnt : Int))) (some (.ints oc)) (some (.ints wt)) (some (.own (T g))) (some (.ints P)) (some (.ints H)) (some (.int pl)) none) = some (.next, LA ns (some (.ints sd)) (some (.int (cnt : Int))) (some (.ints oc)) (some (.ints wt)) (some (.own (T (upd (upd g 65531 192) 65535 192)))) (some (.ints P)) (some (.ints H)) (some (.int pl)) none) := by
  refine asgN_ok (x := 192) (by kernel_rfl) ?_
  show storeTs cf [LV.int 192, LV.int 192] [.sub 5 (.int 65531), .sub 5 (.int 65535)] _ = _
  rw [st_sub (ρ' := LA ns (some (.ints sd)) (some (.int (cnt : Int))) (some (.ints oc)) (some (.ints wt)) (some (.own (T (upd g (65531 : Int).toNat 192)))) (some (.ints P)) (some (.ints H)) (some (.int pl)) none) (putSub_ok (g := g) (by kernel_rfl) (by decide) (by decide) (by kernel_rfl)),
    st_sub (ρ' := LA ns (some (.ints sd)) (some (.int (cnt : Int))) (some (.ints oc)) (some (.ints wt)) (some (.own (T (upd (upd g (65531 : Int).toNat 192) (65535 : Int).toNat 192)))) (some (.ints P)) (some (.ints H)) (some (.int pl)) none) (putSub_ok (g := upd g (65531 : Int).toNat 192) (by kernel_rfl) (by decide) (by decide) (by kernel_rfl))]
  rfl
theorem cut_all {xs : List Int} : cutI xs none none = xs := by
  show (xs.drop 0).take (xs.length - 0) = xs
  rw [List.drop_zero, Nat.sub_zero, List.take_length]
theorem h10 : exL cls iInit theFuel cf s_law_10 (LA ns (some (.ints sd)) (some (.int (cnt : Int))) (some (.ints oc)) (some (.ints wt)) (some (.own (T g))) (some (.ints P)) (some (.ints H)) (some (.int pl)) none) = some (.next, LA ns (some (.ints sd)) (some (.int (cnt : Int))) (some (.ints oc)) (some (.ints wt)) (some (.own (T g))) (some (.ints P)) (some (.ints H)) (some (.int pl)) (some (.own (T g)))) := by
  have e0 : exL cls iInit theFuel cf s_law_10 (LA ns (some (.ints sd)) (some (.int (cnt : Int))) (some (.ints oc)) (some (.ints wt)) (some (.own (T g))) (some (.ints P)) (some (.ints H)) (some (.int pl)) none) = some (.next, LA ns (some (.ints sd)) (some (.int (cnt : Int))) (some (.ints oc)) (some (.ints wt)) (some (.own (T g))) (some (.ints P)) (some (.ints H)) (some (.int pl)) (some (.own (cutI (T g) none none)))) := by kernel_rfl
  rw [e0, cut_all]
theorem h11 : exL cls iInit theFuel cf s_law_11 (LA ns (some (.ints sd)) (some (.int (cnt : Int))) (some (.ints oc)) (some (.ints wt)) (some (.own (T g))) (some (.ints P)) (some (.ints H)) (some (.int pl)) (some (.own kp))) = some (.next, LK ns sd cnt oc wt P H pl kp (Y0 (T g))) := by
  have e0 : exL cls iInit theFuel cf s_law_11 (LA ns (some (.ints sd)) (some (.int (cnt : Int))) (some (.ints oc)) (some (.ints wt)) (some (.own (T g))) (some (.ints P)) (some (.ints H)) (some (.int pl)) (some (.own kp))) =
    ((callM cls deep iInit [.memr, .int 512] { unsetM with mem := T g }).bind fun r => cond (r.1.isNone && true && !Nat.beq 10 5 && Nat.ble r.2.mem.length lim) (backL (LA ns (some (.ints sd)) (some (.int (cnt : Int))) (some (.ints oc)) (some (.ints wt)) (some (.own (T g))) (some (.ints P)) (some (.ints H)) (some (.int pl)) (some (.own kp))) 10 5 r.2) none).map fun ρ' => (.next, ρ') := by kernel_rfl
  have e1 : callM cls deep iInit [.memr, .int 512] { unsetM with mem := T g } = some (.none, (Y0 (T g)).m 0 (.bool false) (.int 512)) := by kernel_rfl
  rw [e0, e1, Option.bind_some]
  have e2 : (V.none.isNone && true && !Nat.beq 10 5 && Nat.ble ((Y0 (T g)).m 0 (.bool false) (.int 512)).mem.length lim) = true := by
    show (true && true && true && Nat.ble (T g).length lim) = true
    rw [T_len]; rfl
  dsimp only
  rw [e2, cond_true]; kernel_rfl
theorem h12 (hc : 2 ≤ cnt ∧ cnt ≤ 5) : exL cls iInit theFuel cf s_law_12 (LK ns sd cnt oc (tk wf cnt) P H pl kp u) = some (.next, LM ns sd cnt oc (tk wf cnt) P H pl kp u 0 (.bool false) 0 (wf 0) none none none) := by
  have e1 : evL cf (.idx (.var 4) (.int 0)) (LK ns sd cnt oc (tk wf cnt) P H pl kp u) = some (.int (wf 0)) := by
    rw [show evL cf (.idx (.var 4) (.int 0)) (LK ns sd cnt oc (tk wf cnt) P H pl kp u) = (pick (tk wf cnt) ((0 : Nat) : Int)).map LV.int by kernel_rfl, pick_tk (by lia)]; rfl
  have e2 : evLs cf (.cons (.int 0) (.cons (.idx (.var 4) (.int 0)) .nil)) (LK ns sd cnt oc (tk wf cnt) P H pl kp u) = some [.int 0, .int (wf 0)] := by
    rw [evLs_cons, evLs_cons, e1]; kernel_rfl
  show exL cls iInit theFuel cf (.asgT true [.name 11, .name 12] (.cons (.int 0) (.cons (.idx (.var 4) (.int 0)) .nil))) _ = _
  rw [exL_asgT, e2, Option.bind_some]
  kernel_rfl
theorem sta0 (hc : 2 ≤ cnt ∧ cnt ≤ 5) (oo : ∀ i, Oct (o i)) : Sta cnt o ((cnt - 0 - 1) * 64 + 62 + 3 * (wf 0).toNat + 64 * (cnt - 0) + 0) (Y0 (T (g0 (cnt : Int)))) 0 (wf 0) := by
  refine ⟨by lia, 0, _, ⟨512, 0, 0, 0, 255, false, false, 0, 0, 0, fun _ => 0⟩, false, false, 0, g0 (cnt : Int), .nil _, .p512 (L := []) ⟨by lia, Nat.le_refl _, fun i => by simp, ⟨.refl _, .nil⟩⟩, ⟨fun k hk => ?_, fun h => absurd h (by decide), oct_lit (by decide), oct_lit (by decide), oct_lit (by decide)⟩, rfl⟩
  show g0 (cnt : Int) k = Mk cnt ((0 : Nat) : Int) ((0 : Nat) : Int) ((0 : Nat) : Int) (dv o 0) (rgT o 0) (fun _ => 0) k
  unfold Mk
  by_cases q : k < 512 ∨ 563 ≤ k ∧ k < 49152 ∨ 49173 ≤ k ∧ k < 65531
  · rw [g0_at q]
    split; rfl
    split; rfl
    split; rfl
    split; rfl
    split; unfold rgT; rw [if_neg (Nat.not_lt_zero _)]
    split; rfl
    rfl
  · rw [if_neg (by lia), if_neg (by lia), if_neg (by lia), if_neg (by lia), if_neg (by lia), if_neg (by lia)]
noncomputable def wrL : (Nat → Int) → Nat → List Int → (Nat → Int)
  | g, b, [] => g
  | g, b, x :: l => wrL (upd g b x) (b + 1) l
theorem wrL_out : ∀ (L : List Int) (g : Nat → Int) (b k : Nat), k < b ∨ b + L.length ≤ k → wrL g b L k = g k
  | [], g, b, k, h => rfl
  | x :: l, g, b, k, h => by
    have h' : k < b ∨ b + (l.length + 1) ≤ k := h
    show wrL (upd g b x) (b + 1) l k = _
    rw [wrL_out l _ _ _ (by lia), upd_ne (by lia)]
theorem wrL_in : ∀ (L : List Int) (g : Nat → Int) (b k : Nat), b ≤ k → k < b + L.length → wrL g b L k = L.getD (k - b) 0
  | [], g, b, k, h1, h2 => absurd h2 (by show ¬ k < b + 0; lia)
  | x :: l, g, b, k, h1, h2 => by
    have h2' : k < b + (l.length + 1) := h2
    show wrL (upd g b x) (b + 1) l k = _
    by_cases e : k = b
    · subst e
      rw [wrL_out l _ _ _ (.inl (Nat.lt_succ_self _)), upd_eq, Nat.sub_self]; rfl
    · rw [wrL_in l _ _ _ (by lia) (by lia), show k - b = (k - (b + 1)) + 1 by lia]; rfl
noncomputable def eb (b : Int) : LSs := .cons (.sub 9 (.bin .add (.int b) (.var 8)) (.var 16)) .nil
theorem layE {b : Nat} (hs : S2 s14 s15) : ∀ (L : List Int) (j : Nat) (gk : Nat → Int) (pl : Int) (s16 : Option LV), b + j + L.length ≤ 65536 → (s16 = none ∨ ∃ x, s16 = some (.int x)) →
    ∃ pl' s16', forL (bindTg (.many [8, 16])) (fun ρ => exLs cls iInit theFuel cf (eb (b : Int)) ρ) (enumItems j L) (LE1 ns sd cnt oc wt P H pl (T gk) u e ad cl w s13 s14 s15 s16) = some (.next, LE1 ns sd cnt oc wt P H pl' (T (wrL gk (b + j) L)) u e ad cl w s13 s14 s15 s16') ∧ (s16' = none ∨ ∃ x, s16' = some (.int x))
  | [], j, gk, pl, s16, hl, h16 => ⟨pl, s16, rfl, h16⟩
  | x :: l, j, gk, pl, s16, hl, h16 => by
    have hl' : b + j + (l.length + 1) ≤ 65536 := hl
    have bd : bindTg (.many [8, 16]) (.tup [.int (j : Int), .int x]) (LE1 ns sd cnt oc wt P H pl (T gk) u e ad cl w s13 s14 s15 s16) = some (LE1 ns sd cnt oc wt P H (j : Int) (T gk) u e ad cl w s13 s14 s15 (some (.int x))) := by
      rcases h16 with rfl | ⟨z, rfl⟩ <;> rcases hs with ⟨rfl, rfl⟩ | ⟨a, q, rfl, rfl⟩ <;> kernel_rfl
    have st : exLs cls iInit theFuel cf (eb (b : Int)) (LE1 ns sd cnt oc wt P H (j : Int) (T gk) u e ad cl w s13 s14 s15 (some (.int x))) = some (.next, LE1 ns sd cnt oc wt P H (j : Int) (T (upd gk (b + j) x)) u e ad cl w s13 s14 s15 (some (.int x))) := by
      unfold eb
      refine (exLs_go (sub_ok (g := gk) (k := ((b + j : Nat) : Int)) (x := x) (ρ' := LE1 ns sd cnt oc wt P H (j : Int) (T (upd gk (b + j) x)) u e ad cl w s13 s14 s15 (some (.int x))) (by kernel_rfl) (by kernel_rfl) ?_ (by lia) (by lia) (by rw [Int.toNat_natCast]; kernel_rfl))).trans (by kernel_rfl)
      rw [Int.natCast_add]
      exact add_i int_i (by kernel_rfl)
    obtain ⟨pl', s16', h1, h2⟩ := layE (b := b) hs l (j + 1) (upd gk (b + j) x) (j : Int) (some (.int x)) (by lia) (.inr ⟨_, rfl⟩)
    exact ⟨pl', s16', (forL_go (r := enumItems (j + 1) l) bd st).trans h1, h2⟩
theorem h14 : exL cls iInit theFuel cf s_law_14 (LE1 ns sd cnt oc wt P H pl (T gk) u e ad cl w s13 s14 s15 s16) = some (.next, LE1 ns sd cnt oc wt P H pl (T (upd (upd (upd gk 16 cnt) 17 cnt) 18 cnt)) u e ad cl w s13 s14 s15 s16) := by
  refine asgN_ok (x := (cnt : Int)) (by kernel_rfl) ?_
  show storeTs cf [LV.int cnt, LV.int cnt, LV.int cnt] [.sub 9 (.int 16), .sub 9 (.int 17), .sub 9 (.int 18)] _ = _
  rw [st_sub (ρ' := LE1 ns sd cnt oc wt P H pl (T (upd gk (16 : Int).toNat cnt)) u e ad cl w s13 s14 s15 s16) (putSub_ok (g := gk) (by kernel_rfl) (by decide) (by decide) (by kernel_rfl)),
    st_sub (ρ' := LE1 ns sd cnt oc wt P H pl (T (upd (upd gk (16 : Int).toNat cnt) (17 : Int).toNat cnt)) u e ad cl w s13 s14 s15 s16) (putSub_ok (g := upd gk (16 : Int).toNat cnt) (by kernel_rfl) (by decide) (by decide) (by kernel_rfl)),
    st_sub (ρ' := LE1 ns sd cnt oc wt P H pl (T (upd (upd (upd gk (16 : Int).toNat cnt) (17 : Int).toNat cnt) (18 : Int).toNat cnt)) u e ad cl w s13 s14 s15 s16) (putSub_ok (g := upd (upd gk (16 : Int).toNat cnt) (17 : Int).toNat cnt) (by kernel_rfl) (by decide) (by decide) (by kernel_rfl))]
  rfl
theorem h15 (hc : 2 ≤ cnt ∧ cnt ≤ 5) : exL cls iInit theFuel cf s_law_15 (LE1 ns sd cnt (tk o cnt) wt P H pl (T gk) u e ad cl w s13 s14 s15 s16) = some (.next, LE1 ns sd cnt (tk o cnt) wt P H pl (T (upd gk 53248 (o (cnt - 1)))) u e ad cl w s13 s14 s15 s16) := by
  refine sub_ok (g := gk) (k := 53248) (x := o (cnt - 1)) (ρ' := LE1 ns sd cnt (tk o cnt) wt P H pl (T (upd gk (53248 : Int).toNat (o (cnt - 1)))) u e ad cl w s13 s14 s15 s16) (by kernel_rfl) ?_ (by kernel_rfl) (by decide) (by decide) (by kernel_rfl)
  have e0 : evL cf (.idx (.var 3) (.bin .sub (.var 2) (.int 1))) (LE1 ns sd cnt (tk o cnt) wt P H pl (T gk) u e ad cl w s13 s14 s15 s16) = (pick (tk o cnt) ((cnt : Int) - 1)).map LV.int := by kernel_rfl
  rw [e0, show (cnt : Int) - 1 = ((cnt - 1 : Nat) : Int) by lia, pick_tk (by lia)]; rfl
theorem tk_len {n : Nat} : (tk o n).length = n := by unfold tk; rw [List.length_map, List.length_range]
theorem h16 (hc : 2 ≤ cnt ∧ cnt ≤ 5) (hs : S2 s14 s15) (hz : s16 = none ∨ ∃ x, s16 = some (.int x)) : ∃ pl' s16', exL cls iInit theFuel cf s_law_16 (LE1 ns sd cnt (tk o cnt) wt P H pl (T gk) u e ad cl w s13 s14 s15 s16) = some (.next, LE1 ns sd cnt (tk o cnt) wt P H pl' (T (wrL gk 1536 (tk o cnt))) u e ad cl w s13 s14 s15 s16') ∧ (s16' = none ∨ ∃ x, s16' = some (.int x)) := by
  obtain ⟨pl', s16', h1, h2⟩ := layE (cf := cf) (ns := ns) (sd := sd) (cnt := cnt) (oc := tk o cnt) (wt := wt) (P := P) (H := H) (u := u) (e := e) (ad := ad) (cl := cl) (w := w) (s13 := s13) (b := 1536) hs (tk o cnt) 0 gk pl s16 (by rw [tk_len]; lia) hz
  refine ⟨pl', s16', Eq.trans ?_ h1, h2⟩
  kernel_rfl
theorem h17 (hc : 2 ≤ cnt ∧ cnt ≤ 5) (hs : S2 s14 s15) (hz : s16 = none ∨ ∃ x, s16 = some (.int x)) : ∃ pl' s16', exL cls iInit theFuel cf s_law_17 (LE1 ns sd cnt (tk o cnt) wt P H pl (T gk) u e ad cl w s13 s14 s15 s16) = some (.next, LE1 ns sd cnt (tk o cnt) wt P H pl' (T (wrL gk 1792 (sortS (tk o cnt)))) u e ad cl w s13 s14 s15 s16') := by
  have sl : (sortS (tk o cnt)).length = cnt := by rw [sortS_perm.length_eq, tk_len]
  obtain ⟨pl', s16', h1, h2⟩ := layE (cf := cf) (ns := ns) (sd := sd) (cnt := cnt) (oc := tk o cnt) (wt := wt) (P := P) (H := H) (u := u) (e := e) (ad := ad) (cl := cl) (w := w) (s13 := s13) (b := 1792) hs (sortS (tk o cnt)) 0 gk pl s16 (by rw [sl]; lia) hz
  refine ⟨pl', s16', Eq.trans ?_ h1⟩
  have e0 : exL cls iInit theFuel cf s_law_17 (LE1 ns sd cnt (tk o cnt) wt P H pl (T gk) u e ad cl w s13 s14 s15 s16) = (cond (Nat.blt (tk o cnt).length 64) (some (LV.ints (sortS (tk o cnt)))) none).bind fun v => v.ints?.bind fun xs => forL (bindTg (.many [8, 16])) (fun ρ => exLs cls iInit theFuel cf (eb ((1792 : Nat) : Int)) ρ) (enumItems 0 xs) (LE1 ns sd cnt (tk o cnt) wt P H pl (T gk) u e ad cl w s13 s14 s15 s16) := by kernel_rfl
  rw [e0, show Nat.blt (tk o cnt).length 64 = true from Nat.ble_eq_true_of_le (by rw [tk_len]; lia), cond_true, Option.bind_some]
  rfl
theorem pk3 : ∀ n v, (pk n v true false false true true).fmod 16 = 3 := by decide +kernel
theorem evLs_c {a : LE} {b : LEs} {x : LV} {xs : List LV} (h1 : evL cf a ρ = some x) (h2 : evLs cf b ρ = some xs) : evLs cf (.cons a b) ρ = some (x :: xs) := by
  rw [evLs_cons, h1, Option.bind_some, h2]; rfl
theorem h18 {x y cyc : Int} {n v : Bool} {g : Nat → Int} : exL cls iInit theFuel cf s_law_18 (LE1 ns sd cnt oc wt P H pl kp ⟨563, (cnt : Int), x, y, 255, n, v, true, false, false, true, true, cyc, T g⟩ e ad cnt w s13 s14 s15 s16) = some (.next, LE1 ns sd cnt oc wt P H pl kp ⟨563, (cnt : Int), x, y, 255, n, v, true, false, false, true, true, cyc, T g⟩ e ad cnt w s13 s14 s15 s16) := by
  refine chk (xs := [563, (cnt : Int), 255, 3, (cnt : Int)]) (evLs_c (x := .int 563) (by kernel_rfl) (evLs_c (x := .int (cnt : Int)) (by kernel_rfl) (evLs_c (x := .int 255) (by kernel_rfl) (evLs_c (x := .int 3) ?_ (evLs_c (x := .int (cnt : Int)) (by kernel_rfl) (by kernel_rfl)))))) (by kernel_rfl) (by show (5 : Nat) ≤ _; rw [lim_eq]; decide)
  have e0 : evL cf (.bin .mod (.attr 10 .p) (.int 16)) (LE1 ns sd cnt oc wt P H pl kp ⟨563, (cnt : Int), x, y, 255, n, v, true, false, false, true, true, cyc, T g⟩ e ad cnt w s13 s14 s15 s16) = some (.int ((pk n v true false false true true).fmod 16)) := by kernel_rfl
  rw [e0, pk3]
theorem clip {a : Nat} (h : a ≤ 65536) : clipAt 65536 (a : Int) = a := by
  have := clipAt_cast 65536 (a : Int)
  rw [if_neg (by lia)] at this
  lia
theorem cut_lo {g g' : Nat → Int} (h : ∀ k, k < 256 → g k = g' k) : cutI (T g) none (some 256) = cutI (T g') none (some 256) := by
  have c : clipAt 65536 256 = 256 := clip (a := 256) (by decide)
  rw [cutI_ns, cutI_ns, T_len, T_len, c]
  apply List.ext_getElem?
  intro j
  by_cases q : j < 256
  · rw [List.getElem?_take_of_lt q, List.getElem?_take_of_lt q, T_get (by lia), T_get (by lia), h j q]
  · rw [List.getElem?_eq_none (by rw [List.length_take]; lia), List.getElem?_eq_none (by rw [List.length_take]; lia)]
theorem cutI_sn {xs : List Int} {a : Int} : cutI xs (some a) none = (xs.drop (clipAt xs.length a)).take (xs.length - clipAt xs.length a) := by unfold cutI; rfl
theorem cut_hi {g g' : Nat → Int} (h : ∀ k, 512 ≤ k → k < 65536 → g k = g' k) : cutI (T g) (some 512) none = cutI (T g') (some 512) none := by
  have c : clipAt 65536 512 = 512 := clip (a := 512) (by decide)
  have e : ∀ g, cutI (T g) (some 512) none = ((T g).drop 512).take (65536 - 512) := fun g => by
    rw [cutI_sn, T_len, c]
  rw [e, e]
  apply List.ext_getElem?
  intro j
  by_cases q : j < 65536 - 512
  · rw [List.getElem?_take_of_lt q, List.getElem?_take_of_lt q, List.getElem?_drop, List.getElem?_drop, T_get (by lia), T_get (by lia), h _ (by lia) (by lia)]
  · rw [List.getElem?_eq_none (by rw [List.length_take]; lia), List.getElem?_eq_none (by rw [List.length_take]; lia)]
theorem eq_t {e1 e2 : LE} {xs : List Int} {ρ : LLoc} (h1 : evL cf e1 ρ = some (.ints xs)) (h2 : evL cf e2 ρ = some (.ints xs)) : evL cf (.cmp .eq e1 e2) ρ = some (.bool true) := by
  have e0 : evL cf (.cmp .eq e1 e2) ρ = (evL cf e1 ρ).bind fun x => (evL cf e2 ρ).bind fun y => (cmpV .eq x y).map LV.bool := by kernel_rfl
  rw [e0, h1, h2]
  show (eqOp .eq (xs == xs)).map LV.bool = _
  rw [beq_self_eq_true]; rfl
theorem h19 {g : Nat → Int} (hm : u.mem = T g) (hg : ∀ k, k < 256 ∨ 512 ≤ k ∧ k < 65536 → g k = gk k) : exL cls iInit theFuel cf s_law_19 (LE1 ns sd cnt oc wt P H pl (T gk) u e ad cl w s13 s14 s15 s16) = some (.ret (.bool true), LE1 ns sd cnt oc wt P H pl (T gk) u e ad cl w s13 s14 s15 s16) := by
  generalize hρ : LE1 ns sd cnt oc wt P H pl (T gk) u e ad cl w s13 s14 s15 s16 = ρ
  have a1 : evL cf (.slc (.own 5) .none (.int 256)) ρ = some (.ints (cutI (T gk) none (some 256))) := by
    rw [← cut_lo (g := g) (fun k h => hg k (.inl h)), ← hm, ← hρ]; kernel_rfl
  have a2 : evL cf (.slc (.own 5) (.int 512) .none) ρ = some (.ints (cutI (T gk) (some 512) none)) := by
    rw [← cut_hi (g := g) (fun k h h' => hg k (.inr ⟨h, h'⟩)), ← hm, ← hρ]; kernel_rfl
  have q1 := eq_t a1 (e2 := .slc (.own 9) .none (.int 256)) (by rw [← hρ]; kernel_rfl)
  have q2 := eq_t a2 (e2 := .slc (.own 9) (.int 512) .none) (by rw [← hρ]; kernel_rfl)
  show exL cls iInit theFuel cf (.ret (.and (.cmp .eq (.slc (.own 5) .none (.int 256)) (.slc (.own 9) .none (.int 256))) (.cmp .eq (.slc (.own 5) (.int 512) .none) (.slc (.own 9) (.int 512) .none)))) ρ = _
  have e0 : ∀ a b, evL cf (.and a b) ρ = (evL cf a ρ).bind fun x => x.bool?.bind fun q => cond q (evL cf b ρ) (some (.bool false)) := fun a b => by kernel_rfl
  rw [exL_ret, e0, q1, q2]; rfl
end
end Mine

end
section
open PySem PySem.W PyProof.Rows
set_option maxRecDepth 100000
set_option maxHeartbeats 0
set_option linter.unusedSimpArgs false
set_option linter.unusedVariables false
set_option linter.unusedSectionVars false
namespace Mine
noncomputable def gE (cnt : Nat) (o : Nat → Int) : Nat → Int := wrL (wrL (upd (upd (upd (upd (g0 (cnt : Int)) 16 cnt) 17 cnt) 18 cnt) 53248 (o (cnt - 1))) 1536 (tk o cnt)) 1792 (sortS (tk o cnt))
theorem tk_get {o : Nat → Int} {n k : Nat} (h : k < n) : (tk o n).getD k 0 = o k := by
  unfold tk
  rw [List.getD_eq_getElem?_getD, List.getElem?_map, List.getElem?_range h]; rfl
theorem final_eq {cnt : Nat} {o rw : Nat → Int} (hc : 2 ≤ cnt ∧ cnt ≤ 5) (hF : ∀ i, rw i = (sortS (tk o cnt)).getD i 0) {k : Nat} (hk : k < 256 ∨ 512 ≤ k) : Mk cnt cnt cnt cnt (dv o cnt) (rgT o cnt) rw k = gE cnt o k := by
  have sl : (sortS (tk o cnt)).length = cnt := by rw [sortS_perm.length_eq, tk_len]
  have tl : (tk o cnt).length = cnt := tk_len
  have ud : ∀ j, 1000 ≤ j → j ≠ 53248 → upd (upd (upd (upd (g0 (cnt : Int)) 16 cnt) 17 cnt) 18 cnt) 53248 (o (cnt - 1)) j = g0 (cnt : Int) j := fun j h1 h2 => by rw [upd_ne h2, upd_ne (by lia), upd_ne (by lia), upd_ne (by lia)]
  unfold Mk gE
  by_cases q2 : 1792 ≤ k ∧ k < 1800
  · rw [if_neg (by lia), if_neg (by lia), if_neg (by lia), if_neg (by lia), if_neg (by lia), if_pos q2, hF]
    by_cases q : k < 1792 + cnt
    · rw [wrL_in _ _ _ _ q2.1 (by lia)]
    · rw [wrL_out _ _ _ _ (.inr (by lia)), wrL_out _ _ _ _ (.inr (by lia)), ud k (by lia) (by lia), g0_at (by lia), List.getD_eq_getElem?_getD, List.getElem?_eq_none (by lia)]; rfl
  rw [wrL_out _ _ _ _ (by lia)]
  by_cases q1 : 1536 ≤ k ∧ k < 1544
  · rw [if_neg (by lia), if_neg (by lia), if_neg (by lia), if_neg (by lia), if_pos q1]
    unfold rgT
    by_cases q : k < 1536 + cnt
    · rw [if_pos (by lia), wrL_in _ _ _ _ q1.1 (by lia), tk_get (by lia)]
    · rw [if_neg (by lia), wrL_out _ _ _ _ (.inr (by lia)), ud k (by lia) (by lia), g0_at (by lia)]
  rw [wrL_out _ _ _ _ (by lia)]
  by_cases a1 : k = 16
  · subst a1; rw [if_pos rfl, upd_ne (by decide), upd_ne (by decide), upd_ne (by decide), upd_eq]
  rw [if_neg a1]
  by_cases a2 : k = 17
  · subst a2; rw [if_pos rfl, upd_ne (by decide), upd_ne (by decide), upd_eq]
  rw [if_neg a2]
  by_cases a3 : k = 18
  · subst a3; rw [if_pos rfl, upd_ne (by decide), upd_eq]
  rw [if_neg a3]
  by_cases a4 : k = 53248
  · subst a4; rw [if_pos rfl, upd_eq]; unfold dv; rw [if_neg (by lia)]
  rw [if_neg a4, if_neg q1, if_neg q2, upd_ne a4, upd_ne a3, upd_ne a2, upd_ne a1]
theorem fn_body : fn_law.body = .cons s_law_0 (.cons s_law_1 (.cons s_law_2 (.cons s_law_3 (.cons s_law_4 (.cons s_law_5 (.cons s_law_6 (.cons s_law_7 (.cons s_law_8 (.cons s_law_9 (.cons s_law_10 (.cons s_law_11 (.cons s_law_12 (.cons s_law_13 (.cons s_law_14 (.cons s_law_15 (.cons s_law_16 (.cons s_law_17 (.cons s_law_18 (.cons s_law_19 .nil))))))))))))))))))) := rfl
theorem law01 {ns : List Int} (hns : ns.length ≤ 63) : ∃ ρ', exLs cls iInit theFuel (callL cls iInit theFuel theF 3) fn_law.body (some (.ints ns) :: List.replicate (fn_law.vars.length - 1) none) = some (.ret (.bool true), ρ') := by
  generalize callL cls iInit theFuel theF 3 = cf
  obtain ⟨S0, S', hS, k0⟩ := h0 (cf := cf) ns
  obtain ⟨cnt, hc, k1⟩ := h1 (cf := cf) (ns := ns) (S := S0 :: S')
  have k2 := h2 (cf := cf) (ns := ns) (S' := S') (S0 := S0) hc
  have k3 := h3 (cf := cf) (ns := ns) (S' := S') (S0 := S0) (oc := tk (oF (S0 :: S')) cnt) hc
  have oo : ∀ i, Oct (oF (S0 :: S') i) := fun i => ⟨Int.emod_nonneg _ (by decide), Int.emod_lt_of_pos _ (by decide)⟩
  have hw : ∀ i, wF (S0 :: S') i ≤ 16 := fun i => by unfold wF; lia
  generalize oF (S0 :: S') = o at k2 k3 oo
  generalize wF (S0 :: S') = wf at k3 hw
  generalize hSd : S0 :: S' = sd at k0 k1 k2 k3
  have k4 := h4 (cf := cf) (ns := ns) (S := sd) (oc := tk o cnt) (wt := tk wf cnt) (cnt := cnt)
  have k5 := h5 (cf := cf) (ns := ns) (S := sd) (oc := tk o cnt) (wt := tk wf cnt) (cnt := cnt) (m := T g00)
  have k6 := h6 (cf := cf) (ns := ns) (S := sd) (oc := tk o cnt) (wt := tk wf cnt) (cnt := cnt) (m := T g00) (P := C01 cnt)
  obtain ⟨t7, k7, ht7, _⟩ := layL (cf := cf) (ns := ns) (S := sd) (oc := tk o cnt) (wt := tk wf cnt) (cnt := cnt) (w := 6) (L := C01 cnt) (P := C01 cnt) (Hh := Hd01) (b := 512) (g := g00) (pl := none) (.inl ⟨rfl, rfl⟩) (by decide) (by show (512 : Int) + (51 : Nat) ≤ 65536; decide) (.inl rfl)
  obtain ⟨t8, k8, _, ht8⟩ := layL (cf := cf) (ns := ns) (S := sd) (oc := tk o cnt) (wt := tk wf cnt) (cnt := cnt) (w := 7) (L := Hd01) (P := C01 cnt) (Hh := Hd01) (b := 49152) (g := wr g00 512 (C01 cnt) 51) (pl := t7) (.inr ⟨rfl, rfl⟩) (by decide) (by show (49152 : Int) + (21 : Nat) ≤ 65536; decide) ht7
  obtain ⟨p8, rfl⟩ := ht8 (by decide)
  have k9 := h9 (cf := cf) (ns := ns) (sd := sd) (oc := tk o cnt) (wt := tk wf cnt) (cnt := cnt) (P := C01 cnt) (H := Hd01) (pl := p8) (g := wr (wr g00 512 (C01 cnt) 51) 49152 Hd01 21)
  have k10 := h10 (cf := cf) (ns := ns) (sd := sd) (oc := tk o cnt) (wt := tk wf cnt) (cnt := cnt) (P := C01 cnt) (H := Hd01) (pl := p8) (g := g0 (cnt : Int))
  have k11 := h11 (cf := cf) (ns := ns) (sd := sd) (oc := tk o cnt) (wt := tk wf cnt) (cnt := cnt) (P := C01 cnt) (H := Hd01) (pl := p8) (g := g0 (cnt : Int)) (kp := T (g0 (cnt : Int)))
  have k12 := h12 (cf := cf) (ns := ns) (sd := sd) (oc := tk o cnt) (wf := wf) (P := C01 cnt) (H := Hd01) (pl := p8) (kp := T (g0 (cnt : Int))) (u := Y0 (T (g0 (cnt : Int)))) hc
  refine turns (cf := cf) (ns := ns) (sd := sd) (P := C01 cnt) (H := Hd01) (pl := p8) (kp := T (g0 (cnt : Int))) hc oo hw 900 0 _ 0 (Y0 (T (g0 (cnt : Int)))) 0 (wf 0) (.bool false) none none none (by have := hw 0; lia) (sta0 hc oo) (.inl ⟨rfl, rfl⟩) (.inl rfl) fun u e ad cl w z t14 t15 h13 f hs => ?_
  have k13 : exL cls iInit theFuel cf s_law_13 (LM ns sd cnt (tk o cnt) (tk wf cnt) (C01 cnt) Hd01 p8 (T (g0 (cnt : Int))) (Y0 (T (g0 (cnt : Int)))) 0 (.bool false) 0 (wf 0) none none none) = some (.next, LM ns sd cnt (tk o cnt) (tk wf cnt) (C01 cnt) Hd01 p8 (T (g0 (cnt : Int))) u e ad cl w (some (.int z)) t14 t15) := by
    rw [s13_eq, exL_for, rng_n (n := 900) (int_i (i := 900)) (by rw [lim_eq]; decide), Option.bind_some, List.range_eq_range']
    exact h13
  obtain ⟨rfl, fi⟩ := f
  refine fi fun {x y k rw0 L n v cyc g} hu w0 M => ?_
  subst hu
  · have hL : L = sortS (tk o cl) := sorted_unique (w0.srt.1.trans sortS_perm.symm) w0.srt.2 sortS_le
    subst hL
    have k14 := h14 (cf := cf) (ns := ns) (sd := sd) (cnt := cl) (oc := tk o cl) (wt := tk wf cl) (P := C01 cl) (H := Hd01) (pl := p8) (gk := g0 (cl : Int)) (u := ⟨563, (cl : Int), x, y, 255, n, v, true, false, false, true, true, cyc, T g⟩) (e := e) (ad := ad) (cl := cl) (w := w) (s13 := z) (s14 := t14) (s15 := t15) (s16 := none)
    have k15 := h15 (cf := cf) (ns := ns) (sd := sd) (o := o) (wt := tk wf cl) (P := C01 cl) (H := Hd01) (pl := p8) (gk := upd (upd (upd (g0 (cl : Int)) 16 cl) 17 cl) 18 cl) (u := ⟨563, (cl : Int), x, y, 255, n, v, true, false, false, true, true, cyc, T g⟩) (e := e) (ad := ad) (cl := cl) (w := w) (s13 := z) (s14 := t14) (s15 := t15) (s16 := none) hc
    obtain ⟨p16, s16, k16, hz⟩ := h16 (cf := cf) (ns := ns) (sd := sd) (o := o) (wt := tk wf cl) (P := C01 cl) (H := Hd01) (pl := p8) (gk := upd (upd (upd (upd (g0 (cl : Int)) 16 cl) 17 cl) 18 cl) 53248 (o (cl - 1))) (u := ⟨563, (cl : Int), x, y, 255, n, v, true, false, false, true, true, cyc, T g⟩) (e := e) (ad := ad) (cl := cl) (w := w) (s13 := z) (s14 := t14) (s15 := t15) (s16 := none) hc hs (.inl rfl)
    obtain ⟨p17, s17, k17⟩ := h17 (cf := cf) (ns := ns) (sd := sd) (o := o) (wt := tk wf cl) (P := C01 cl) (H := Hd01) (pl := p16) (gk := wrL (upd (upd (upd (upd (g0 (cl : Int)) 16 cl) 17 cl) 18 cl) 53248 (o (cl - 1))) 1536 (tk o cl)) (u := ⟨563, (cl : Int), x, y, 255, n, v, true, false, false, true, true, cyc, T g⟩) (e := e) (ad := ad) (cl := cl) (w := w) (s13 := z) (s14 := t14) (s15 := t15) (s16 := s16) hc hs hz
    have k18 := h18 (cf := cf) (ns := ns) (sd := sd) (cnt := cl) (oc := tk o cl) (wt := tk wf cl) (P := C01 cl) (H := Hd01) (pl := p17) (kp := T (gE cl o)) (x := x) (y := y) (cyc := cyc) (n := n) (v := v) (g := g) (e := e) (ad := ad) (w := w) (s13 := z) (s14 := t14) (s15 := t15) (s16 := s17)
    have k19 := h19 (cf := cf) (ns := ns) (sd := sd) (cnt := cl) (oc := tk o cl) (wt := tk wf cl) (P := C01 cl) (H := Hd01) (pl := p17) (gk := gE cl o) (u := ⟨563, (cl : Int), x, y, 255, n, v, true, false, false, true, true, cyc, T g⟩) (e := e) (ad := ad) (cl := cl) (w := w) (s13 := z) (s14 := t14) (s15 := t15) (s16 := s17) (g := g) rfl (fun k hk => (M.mem k (by lia)).trans (final_eq hc w0.full (by lia)))
    rw [fn_body]
    exact ⟨_, (exLs_go k0).trans ((exLs_go k1).trans ((exLs_go k2).trans ((exLs_go k3).trans ((exLs_go k4).trans ((exLs_go k5).trans ((exLs_go k6).trans ((exLs_go k7).trans ((exLs_go k8).trans ((exLs_go k9).trans ((exLs_go k10).trans ((exLs_go k11).trans ((exLs_go k12).trans ((exLs_go k13).trans ((exLs_go k14).trans ((exLs_go k15).trans ((exLs_go k16).trans ((exLs_go k17).trans ((exLs_go k18).trans (exLs_ret k19)))))))))))))))))))⟩
end Mine

end
section
open PySem PySem.W PyProof.Rows
set_option maxRecDepth 100000
set_option maxHeartbeats 0
namespace Mine
theorem row_done (said : rwN.row.wellSaid = true) : rwN.row.Holds :=
  row_holds (l := rwN) (H := HK) (d := dLaw) law_prog rfl rfl rfl left law_Xt law_def law_the law_kw law_dfl said law_ok law_bare law_can
    (law_run fun _ hn => law01 hn)
end Mine
theorem PySem.Challenge.cw_lr0005_01_holds : PySem.Challenge.rw_lr0005_01.Holds :=
  ⟨Mine.said_law, Mine.row_done Mine.said_row⟩

end
