import PyProof.Rows.All
import Wide.All
import OpenK.AllK
import Wide.FinOn
import PySem.Challenge.RW_tp0011_01
open PySem PySem.W PyProof.Rows
set_option Elab.async false
set_option maxRecDepth 100000
set_option linter.all false
set_option compiler.extract_closed false
namespace Mine
section
/-! values as data -/
inductive D where
  | none
  | bool (b : Bool)
  | int (i : Int)
  | float (x : UInt64)
  | str (s : Str)
  | list (ds : List D)
  | tuple (ds : List D)
  | raw (v : Value)

mutual
inductive Rep (U : Addr → Prop) (h : Heap) : Value → D → Prop
  | none : Rep U h .none .none
  | bool (b) : Rep U h (.bool b) (.bool b)
  | int (i t) : Rep U h (.int i t) (.int i)
  | float (x t) : Rep U h (.float x t) (.float x)
  | str (x t) : Rep U h (.str x t) (.str x)
  | list (a vs ds) : ¬ U a → h.PlainList a vs.toArray → Reps U h vs ds → Rep U h (.ref a) (.list ds)
  | tuple (a vs ds) : ¬ U a → h.IsTuple a vs.toArray → Reps U h vs ds → Rep U h (.ref a) (.tuple ds)
  | raw (v) : Rep U h v (.raw v)
inductive Reps (U : Addr → Prop) (h : Heap) : List Value → List D → Prop
  | nil : Reps U h [] []
  | cons {v d vs ds} : Rep U h v d → Reps U h vs ds → Reps U h (v :: vs) (d :: ds)
end

theorem isList_at {h h' : Heap} {a : Addr} {items} (x : h.IsList a items) (k : ∀ o, h.get? a = some o → h'.get? a = some o) : h'.IsList a items :=
  let ⟨o, ho, r⟩ := x; ⟨o, k o ho, r⟩
theorem isTuple_at {h h' : Heap} {a : Addr} {items} (x : h.IsTuple a items) (k : ∀ o, h.get? a = some o → h'.get? a = some o) : h'.IsTuple a items :=
  let ⟨o, ho, r⟩ := x; ⟨o, k o ho, r⟩
theorem isCell_at {h h' : Heap} {a : Addr} {v} (x : h.IsCell a v) (k : ∀ o, h.get? a = some o → h'.get? a = some o) : h'.IsCell a v :=
  let ⟨o, ho, r⟩ := x; ⟨o, k o ho, r⟩

mutual
theorem Rep.move {U U' : Addr → Prop} {h h' : Heap} {v : Value} {d : D} (r : Rep U h v d)
    (k : ∀ a o, ¬ U a → (∃ xs m, o.data = .seq xs m) → h.get? a = some o → h'.get? a = some o ∧ ¬ U' a) : Rep U' h' v d := by
  cases r with
  | none => exact .none
  | bool b => exact .bool b
  | int i t => exact .int i t
  | float x t => exact .float x t
  | str x t => exact .str x t
  | list a vs ds hu hl hr =>
    obtain ⟨m, ho⟩ := id hl
    exact .list a vs ds (k a _ hu ⟨_, _, rfl⟩ ho).2 ⟨m, (k a _ hu ⟨_, _, rfl⟩ ho).1⟩ (hr.move k)
  | tuple a vs ds hu hl hr =>
    obtain ⟨o, ho, hc, m, hd⟩ := id hl
    exact .tuple a vs ds (k a o hu ⟨_, _, hd⟩ ho).2 ⟨o, (k a o hu ⟨_, _, hd⟩ ho).1, hc, m, hd⟩ (hr.move k)
  | raw v => exact .raw v
theorem Reps.move {U U' : Addr → Prop} {h h' : Heap} {vs : List Value} {ds : List D} (r : Reps U h vs ds)
    (k : ∀ a o, ¬ U a → (∃ xs m, o.data = .seq xs m) → h.get? a = some o → h'.get? a = some o ∧ ¬ U' a) : Reps U' h' vs ds := by
  cases r with
  | nil => exact .nil
  | cons h1 h2 => exact .cons (h1.move k) (h2.move k)
end

/-! the state grows; the addresses of M alone may change -/
structure Ext (M : Addr → Prop) (s s' : Shared) : Prop where
  keep : ∀ b o, ¬ M b → s.heap.get? b = some o → s'.heap.get? b = some o
  os : s'.os = s.os
  gsize : s.gens.size ≤ s'.gens.size
  gens : ∀ g, g < s.gens.size → s'.gens[g]? = s.gens[g]?
  bare : AllBare s.gens → AllBare s'.gens

noncomputable abbrev Nowhere : Addr → Prop := fun _ => False

theorem Ext.refl (M : Addr → Prop) (s : Shared) : Ext M s s := ⟨fun _ _ _ e => e, rfl, Nat.le_refl _, fun _ _ => rfl, fun b => b⟩
theorem Ext.trans {M : Addr → Prop} {s s' s'' : Shared} (x : Ext M s s') (y : Ext M s' s'') : Ext M s s'' :=
  ⟨fun b o n e => y.keep b o n (x.keep b o n e), y.os.trans x.os, Nat.le_trans x.gsize y.gsize,
   fun g hg => (y.gens g (Nat.lt_of_lt_of_le hg x.gsize)).trans (x.gens g hg), fun b => y.bare (x.bare b)⟩
theorem Ext.mono {M M' : Addr → Prop} {s s' : Shared} (x : Ext M s s') (h : ∀ a, M a → M' a) : Ext M' s s' :=
  ⟨fun b o n e => x.keep b o (fun m => n (h b m)) e, x.os, x.gsize, x.gens, x.bare⟩
theorem Ext.any {M : Addr → Prop} {s s' : Shared} (x : Ext Nowhere s s') : Ext M s s' := x.mono fun _ f => f.elim
/-- a change at fresh addresses only is no change -/
theorem Ext.less {M M' : Addr → Prop} {s s' : Shared} (x : Ext M s s') (h : ∀ a o, M a → s.heap.get? a = some o → M' a) : Ext M' s s' :=
  ⟨fun b o n e => x.keep b o (fun m => n (h b o m e)) e, x.os, x.gsize, x.gens, x.bare⟩
theorem Ext.heap {M : Addr → Prop} {s : Shared} {h' : Heap} {tk : Nat} (k : ∀ b o, s.heap.get? b = some o → h'.get? b = some o) :
    Ext M s { s with heap := h', toks := tk } := ⟨fun b o _ e => k b o e, rfl, Nat.le_refl _, fun _ _ => rfl, fun b => b⟩
theorem Ext.tok {M : Addr → Prop} {s : Shared} {tk : Nat} : Ext M s { s with toks := tk } := .heap fun _ _ e => e

theorem Rep.ext {U M : Addr → Prop} {s s' : Shared} {v : Value} {d : D} (r : Rep U s.heap v d) (x : Ext M s s') (h : ∀ a, M a → U a) : Rep U s'.heap v d :=
  r.move fun a o n _ e => ⟨x.keep a o (fun m => n (h a m)) e, n⟩
theorem Reps.ext {U M : Addr → Prop} {s s' : Shared} {vs : List Value} {ds : List D} (r : Reps U s.heap vs ds) (x : Ext M s s') (h : ∀ a, M a → U a) : Reps U s'.heap vs ds :=
  r.move fun a o n _ e => ⟨x.keep a o (fun m => n (h a m)) e, n⟩
theorem Rep.ext0 {U : Addr → Prop} {s s' : Shared} {v : Value} {d : D} (r : Rep U s.heap v d) (x : Ext Nowhere s s') : Rep U s'.heap v d := r.ext x fun _ f => f.elim
theorem Reps.ext0 {U : Addr → Prop} {s s' : Shared} {vs : List Value} {ds : List D} (r : Reps U s.heap vs ds) (x : Ext Nowhere s s') : Reps U s'.heap vs ds := r.ext x fun _ f => f.elim

theorem Reps.length {U : Addr → Prop} {h : Heap} : ∀ {vs : List Value} {ds : List D}, Reps U h vs ds → vs.length = ds.length
  | _, _, .nil => rfl
  | _, _, .cons _ r => by simp [r.length]
theorem Reps.append {U : Addr → Prop} {h : Heap} : ∀ {vs : List Value} {ds : List D} {vs' ds'}, Reps U h vs ds → Reps U h vs' ds' → Reps U h (vs ++ vs') (ds ++ ds')
  | _, _, _, _, .nil, r => r
  | _, _, _, _, .cons a r, r' => .cons a (r.append r')
theorem Reps.get {U : Addr → Prop} {h : Heap} : ∀ {vs : List Value} {ds : List D} (i : Nat) {d : D}, Reps U h vs ds → ds[i]? = some d → ∃ v, vs[i]? = some v ∧ Rep U h v d
  | _, _, 0, _, .cons a _, e => by cases e; exact ⟨_, rfl, a⟩
  | _, _, i + 1, d, .cons _ r, e => by
    have e' : _ = some d := e
    rw [List.getElem?_cons_succ] at e'
    obtain ⟨v, h1, h2⟩ := r.get i e'
    exact ⟨v, by rw [List.getElem?_cons_succ]; exact h1, h2⟩
theorem Reps.getV {U : Addr → Prop} {h : Heap} : ∀ {vs : List Value} {ds : List D} (i : Nat) {v : Value}, Reps U h vs ds → vs[i]? = some v → ∃ d, ds[i]? = some d ∧ Rep U h v d
  | _, _, 0, _, .cons a _, e => by cases e; exact ⟨_, rfl, a⟩
  | _, _, i + 1, v, .cons _ r, e => by
    have e' : _ = some v := e
    rw [List.getElem?_cons_succ] at e'
    obtain ⟨d, h1, h2⟩ := r.getV i e'
    exact ⟨d, by rw [List.getElem?_cons_succ]; exact h1, h2⟩

/-! the world that a frame stands in -/
structure Wd (hS : Heap) where
  Mut : Addr → Prop
  foot : Addr → Prop
  σ : Type
  holds : σ → Shared → Prop
  mutF : ∀ a, Mut a → foot a
  apart : ∀ a o, hS.get? a = some o → ¬ Mut a
  alive : ∀ {st s}, holds st s → ∀ a, foot a → ∃ o, s.heap.get? a = some o
  stable : ∀ {st s s'}, holds st s → (∀ a o, foot a → s.heap.get? a = some o → s'.heap.get? a = some o) → (∀ a o, hS.get? a = some o → s'.heap.get? a = some o) → holds st s'

/-- the world in which nothing may change -/
noncomputable def Wd.still (hS : Heap) : Wd hS where
  Mut := Nowhere
  foot := Nowhere
  σ := Unit
  holds := fun _ _ => True
  mutF := fun _ f => f.elim
  apart := fun _ _ _ f => f
  alive := fun _ _ f => f.elim
  stable := fun _ _ _ => trivial

noncomputable def Var (h : Heap) (env : Env) (x : Str) (v : Value) : Prop :=
  (env.kindOf x = some .local ∧ ∃ m, h.Ns env.locals m ∧ m x = some v) ∨
  ((env.kindOf x = some .cell ∨ env.kindOf x = some .free ∧ (x == ("__classdict__" : Str)) = false) ∧ ∃ c, env.cells.lookup x = some c ∧ h.IsCell c (some v))

structure Fits (sc : Scope) (env : Env) : Prop where
  scope : env.scope = sc
  kind : sc.kind = .function
  globals : env.globals = mainGlobals
  builtins : env.builtins = builtinsNs

structure Room (A : Around) (n : Nat) : Prop where
  handled : A.handled = none
  depth : A.depth + n < recursionLimit
  units : A.units + 4 * n + 40 < cLine

theorem Room.le {A : Around} {n m : Nat} (r : Room A n) (h : m ≤ n) : Room A m := ⟨r.handled, by have := r.depth; omega, by have := r.units; omega⟩
theorem Room.in1 {A : Around} {n : Nat} (r : Room A (n + 1)) : Room A.in1 n := ⟨r.handled, by have := r.depth; show A.depth + n < _; omega, by have := r.units; show A.units + 1 + 4 * n + 40 < _; omega⟩
theorem Room.deeper {A : Around} {n : Nat} (r : Room A (n + 1)) (env : Env) : Room (A.deeper env) n :=
  ⟨r.handled, by have := r.depth; show A.depth + 1 + n < _; omega, by have := r.units; show A.units + 3 + 4 * n + 40 < _; omega⟩

section
variable {hS : Heap}

structure Stand (W : Wd hS) (U : Addr → Prop) (env : Env) (vars : List Str) (ρ : List (Option D)) (st : W.σ) (s : Shared) : Prop where
  static : ∀ a o, hS.get? a = some o → s.heap.get? a = some o
  mutU : ∀ a, W.Mut a → U a
  low : ∀ a, U a → ∃ o, s.heap.get? a = some o
  hold : W.holds st s
  ns : ∃ m, s.heap.Ns env.locals m
  locals : ¬ W.foot env.locals
  localsS : hS.get? env.locals = none
  cells : ∀ x c, env.cells.lookup x = some c → ¬ W.foot c
  cellsS : ∀ x c, env.cells.lookup x = some c → hS.get? c = none
  cellv : ∀ x c, env.cells.lookup x = some c → ∃ v, s.heap.IsCell c v
  inj : ∀ x y c, env.cells.lookup x = some c → env.cells.lookup y = some c → x = y
  sto : ∀ (i : Nat) (x : Str) (d : D), vars[i]? = some x → ρ[i]? = some (some d) → ∃ v, Var s.heap env x v ∧ Rep U s.heap v d

theorem Var.at {h h' : Heap} {env : Env} {x : Str} {v : Value} (y : Var h env x v) (k1 : ∀ o, h.get? env.locals = some o → h'.get? env.locals = some o)
    (k2 : ∀ c, env.cells.lookup x = some c → ∀ o, h.get? c = some o → h'.get? c = some o) : Var h' env x v := by
  rcases y with ⟨hk, m, hn, hm⟩ | ⟨hk, c, hc, hv⟩
  · exact .inl ⟨hk, m, hn.at' k1, hm⟩
  · exact .inr ⟨hk, c, hc, isCell_at hv (k2 c hc)⟩

theorem Stand.step {W : Wd hS} {U : Addr → Prop} {env : Env} {vars : List Str} {ρ : List (Option D)} {st st' : W.σ} {s s' : Shared} (I : Stand W U env vars ρ st s) (x : Ext W.Mut s s') (h : W.holds st' s') :
    Stand W U env vars ρ st' s' where
  static := fun a o e => x.keep a o (W.apart a o e) (I.static a o e)
  mutU := I.mutU
  low := fun a u => by
    by_cases m : W.Mut a
    · exact W.alive h a (W.mutF a m)
    · obtain ⟨o, e⟩ := I.low a u
      exact ⟨o, x.keep a o m e⟩
  hold := h
  ns := let ⟨m, hm⟩ := I.ns; ⟨m, hm.at' fun o e => x.keep _ o (fun q => I.locals (W.mutF _ q)) e⟩
  locals := I.locals
  localsS := I.localsS
  cells := I.cells
  cellsS := I.cellsS
  cellv := fun y c hc => let ⟨v, hv⟩ := I.cellv y c hc; ⟨v, isCell_at hv fun o e => x.keep _ o (fun q => I.cells y c hc (W.mutF _ q)) e⟩
  inj := I.inj
  sto := fun i y d h1 h2 => by
    obtain ⟨v, hv, hr⟩ := I.sto i y d h1 h2
    exact ⟨v, hv.at (fun o e => x.keep _ o (fun q => I.locals (W.mutF _ q)) e) (fun c hc o e => x.keep _ o (fun q => I.cells y c hc (W.mutF _ q)) e), hr.ext x I.mutU⟩
theorem Wd.still0 (W : Wd hS) {st : W.σ} {s s' : Shared} (h : W.holds st s) (st' : ∀ a o, hS.get? a = some o → s.heap.get? a = some o) (x : Ext Nowhere s s') : W.holds st s' :=
  W.stable h (fun a o _ e => x.keep a o id e) fun a o e => x.keep a o id (st' a o e)
theorem Stand.hold0 {W : Wd hS} {U : Addr → Prop} {env : Env} {vars : List Str} {ρ : List (Option D)} {st : W.σ} {s s' : Shared} (I : Stand W U env vars ρ st s) (x : Ext Nowhere s s') : W.holds st s' := W.still0 I.hold I.static x
theorem Stand.step0 {W : Wd hS} {U : Addr → Prop} {env : Env} {vars : List Str} {ρ : List (Option D)} {st : W.σ} {s s' : Shared} (I : Stand W U env vars ρ st s) (x : Ext Nowhere s s') : Stand W U env vars ρ st s' :=
  I.step x.any (I.hold0 x)

/-- the value of an expression -/
noncomputable def EV (prog : Program) (w : World) (n : Nat) (W : Wd hS) (sc : Scope) (vars : List Str) (ρ : List (Option D)) (st : W.σ) (e : Expr) (d : D) (st' : W.σ) : Prop :=
  ∀ (A : Around) (env : Env) (U : Addr → Prop) (s : Shared), Room A n → Fits sc env → Stand W U env vars ρ st s →
    wpAny (model prog w) A (eval e env) (fun v s' => Ext W.Mut s s' ∧ W.holds st' s' ∧ Rep U s'.heap v d) (fun _ _ => False) s

/-- the values of several, in order -/
inductive EVs (prog : Program) (w : World) (n : Nat) (W : Wd hS) (sc : Scope) (vars : List Str) (ρ : List (Option D)) : W.σ → List Expr → List D → W.σ → Prop
  | nil {st} : EVs prog w n W sc vars ρ st [] [] st
  | cons {st st₁ st₂ e es d ds} : EV prog w n W sc vars ρ st e d st₁ → EVs prog w n W sc vars ρ st₁ es ds st₂ → (∀ env, starEach (e :: es) env = (false, eval e env) :: starEach es env) →
      EVs prog w n W sc vars ρ st (e :: es) (d :: ds) st₂

/-- what an operation on values does, whatever the state -/
noncomputable def Op (hS : Heap) (prog : Program) (w : World) (n : Nat) (t : List Value → Sem Value) (ds : List D) (d : D) : Prop :=
  ∀ (A : Around) (U : Addr → Prop) (s : Shared) (vs : List Value), Room A n → (∀ a o, hS.get? a = some o → s.heap.get? a = some o) → (∀ a, U a → ∃ o, s.heap.get? a = some o) → Reps U s.heap vs ds →
    wpAny (model prog w) A (t vs) (fun v s' => Ext Nowhere s s' ∧ Rep U s'.heap v d) (fun _ _ => False) s

variable {prog : Program} {w : World} {n : Nat} {W : Wd hS} {sc : Scope} {vars : List Str} {ρ : List (Option D)} {st st₁ st₂ st₃ : W.σ}

theorem false_any {α : Type} {M : Model} {A : Around} {t : Sem α} {Q : α → Shared → Prop} {E : Value → Shared → Prop} {s : Shared}
    (h : wpAny M A t Q (fun _ _ => False) s) : wpAny M A t Q E s := wpAny_mono h (fun _ _ q => q) fun _ _ f => f.elim

theorem EV.here {d : D} {e : Expr} (h : ∀ (A : Around) (env : Env) (U : Addr → Prop) (s : Shared), Room A n → Fits sc env → Stand W U env vars ρ st s → wpAny (model prog w) A (eval e env) (fun v s' => Ext Nowhere s s' ∧ Rep U s'.heap v d) (fun _ _ => False) s) :
    EV prog w n W sc vars ρ st e d st := fun A env U s r f I => wpAny_mono (h A env U s r f I) (fun v s' h => ⟨h.1.any, I.hold0 h.1, h.2⟩) fun _ _ f => f

theorem EV.int (i : Int) {k pos} : EV prog w n W sc vars ρ st (.Constant (.int i) k pos) (.int i) st :=
  .here fun _ _ _ _ _ _ _ => wpAny_Constant_int ⟨.tok, .int _ _⟩
theorem EV.strC (x : Str) {k pos} : EV prog w n W sc vars ρ st (.Constant (.str x) k pos) (.str x) st :=
  .here fun _ _ _ _ _ _ _ => Calls.Constant_str ⟨.tok, .str _ _⟩
theorem EV.boolC (b : Bool) {k pos} : EV prog w n W sc vars ρ st (.Constant (.bool b) k pos) (.bool b) st :=
  .here fun _ _ _ _ _ _ _ => wpAny_pure ⟨.refl _ _, .bool _⟩
theorem EV.noneC {k pos} : EV prog w n W sc vars ρ st (.Constant .none k pos) .none st :=
  .here fun _ _ _ _ _ _ _ => wpAny_pure ⟨.refl _ _, .none⟩
theorem EV.floatC (x : UInt64) {k pos} : EV prog w n W sc vars ρ st (.Constant (.float x) k pos) (.float x) st :=
  .here fun _ _ _ _ _ _ _ => fun _ _ _ => ⟨.tok, .float _ _⟩

theorem EV.name (i : Nat) {x : Str} {pos : Pos} {d : D} (hx : vars[i]? = some x) (hd : ρ[i]? = some (some d)) (hb : (x == ("__debug__" : Str)) = false := by decide +kernel) :
    EV prog w n W sc vars ρ st (.Name x pos) d st := .here fun A env U s _ f I => by
  obtain ⟨v, hv, hr⟩ := I.sto i x d hx hd
  have hk : env.scope.kind = .function := by rw [f.scope]; exact f.kind
  refine wpAny_Name ?_ hb
  rcases hv with ⟨hl, m, hn, hm⟩ | ⟨hl | ⟨hl, hcd⟩, c, hc, hv⟩
  · exact wpAny_loadName_local hk hl hn hm ⟨.refl _ _, hr⟩
  · exact wpAny_loadName_cell hk hl hc hv ⟨.refl _ _, hr⟩
  · exact wpAny_loadName_free hk hl hc hv ⟨.refl _ _, hr⟩ hcd

noncomputable def Glb (hS : Heap) (x : Str) (v : Value) : Prop := ∃ mg, hS.Ns mainGlobals mg ∧ mg x = some v
noncomputable def Blt (hS : Heap) (x : Str) (v : Value) : Prop := ∃ mg mb, hS.Ns mainGlobals mg ∧ mg x = none ∧ hS.Ns builtinsNs mb ∧ mb x = some v

theorem EV.glob {x : Str} {pos : Pos} {v : Value} (g : Glb hS x v) (hk : sc.names.lookup x = some .globalImplicit) (hb : (x == ("__debug__" : Str)) = false := by decide +kernel) :
    EV prog w n W sc vars ρ st (.Name x pos) (.raw v) st := .here fun A env U s _ f I => by
  obtain ⟨mg, hn, hm⟩ := g
  exact Calls.Name_function_global (by rw [f.scope]; exact f.kind) (by unfold Env.kindOf; rw [f.scope]; exact hk) (Calls.loadGlobal_global (by rw [f.globals]; exact hn.keeps I.static) hm ⟨.refl _ _, .raw _⟩) hb
theorem EV.blt {x : Str} {pos : Pos} {v : Value} (g : Blt hS x v) (hk : sc.names.lookup x = some .globalImplicit) (hb : (x == ("__debug__" : Str)) = false := by decide +kernel) :
    EV prog w n W sc vars ρ st (.Name x pos) (.raw v) st := .here fun A env U s _ f I => by
  obtain ⟨mg, mb, hn, hm, hn', hm'⟩ := g
  exact Calls.Name_function_global (by rw [f.scope]; exact f.kind) (by unfold Env.kindOf; rw [f.scope]; exact hk)
    (Calls.loadGlobal_builtin (by rw [f.globals]; exact hn.keeps I.static) hm (by rw [f.builtins]; exact hn'.keeps I.static) hm' ⟨.refl _ _, .raw _⟩) hb

/-- an operation behind two values -/
theorem EV.two {e e1 e2 : Expr} {d1 d2 d : D} {t : Value → Value → Sem Value} (h1 : EV prog w n W sc vars ρ st e1 d1 st₁) (h2 : EV prog w n W sc vars ρ st₁ e2 d2 st₂)
    (ho : Op hS prog w n (fun vs => match vs with | [a, b] => t a b | _ => pure .none) [d1, d2] d)
    (he : ∀ {A : Around} {env : Env} {s : Shared} {Q : Value → Shared → Prop} {E : Value → Shared → Prop}, Fits sc env →
      wpAny (model prog w) A (eval e1 env) (fun a s₁ => wpAny (model prog w) A (eval e2 env) (fun b s₂ => wpAny (model prog w) A (t a b) Q E s₂) E s₁) E s → wpAny (model prog w) A (eval e env) Q E s) :
    EV prog w n W sc vars ρ st e d st₂ := fun A env U s r f I => by
  refine he f (wpAny_mono (h1 A env U s r f I) (fun v1 s1 q1 => ?_) fun _ _ x => x)
  have I1 := I.step q1.1 q1.2.1
  refine wpAny_mono (h2 A env U s1 r f I1) (fun v2 s2 q2 => ?_) fun _ _ x => x
  have I2 := I1.step q2.1 q2.2.1
  refine wpAny_mono (ho A U s2 [v1, v2] r I2.static I2.low (.cons (q1.2.2.ext q2.1 I.mutU) (.cons q2.2.2 .nil))) (fun v s' q => ?_) fun _ _ x => x
  exact ⟨(q1.1.trans q2.1).trans q.1.any, I2.hold0 q.1, q.2⟩

theorem EV.binop {l r : Expr} {op : Operator} {pos : Pos} {d1 d2 d : D} (h1 : EV prog w n W sc vars ρ st l d1 st₁) (h2 : EV prog w n W sc vars ρ st₁ r d2 st₂)
    (ho : Op hS prog w n (fun vs => match vs with | [a, b] => binaryOp op a b | _ => pure .none) [d1, d2] d) : EV prog w n W sc vars ρ st (.BinOp l op r pos) d st₂ :=
  h1.two h2 ho fun _ h => wpAny_BinOp h
theorem EV.cmp {l r : Expr} {op : CmpOp} {pos : Pos} {d1 d2 d : D} (h1 : EV prog w n W sc vars ρ st l d1 st₁) (h2 : EV prog w n W sc vars ρ st₁ r d2 st₂)
    (ho : Op hS prog w n (fun vs => match vs with | [a, b] => compareOp op a b | _ => pure .none) [d1, d2] d) (hm : behindInMarks op r = false := by with_unfolding_all rfl) :
    EV prog w n W sc vars ρ st (.Compare l [op] [r] pos) d st₂ :=
  h1.two h2 ho fun _ h => wpAny_Compare1 h hm

theorem IfExp_ {A : Around} {M : Model} {env : Env} {s : Shared} {t b o : Expr} {pos : Pos} {Q : Value → Shared → Prop} {E : Value → Shared → Prop}
    (h : wpAny M A (isTrue t env (eval t env)) (fun c s₁ => if c then wpAny M A (eval b env) Q E s₁ else wpAny M A (eval o env) Q E s₁) E s) : wpAny M A (eval (.IfExp t b o pos) env) Q E s := by
  show wpAny M A (isTrue t env (eval t env) >>= fun c => if c then eval b env else eval o env) Q E s
  refine wpAny_bind (wpAny_mono h (fun c s₁ h₁ => ?_) fun _ _ x => x)
  cases c <;> exact h₁
end
end
section
noncomputable abbrev Bin (op : Operator) : List Value → Sem Value := fun vs => match vs with | [a, b] => binaryOp op a b | _ => pure .none
noncomputable abbrev Cmp (op : CmpOp) : List Value → Sem Value := fun vs => match vs with | [a, b] => compareOp op a b | _ => pure .none
noncomputable abbrev Call (f : Value) : List Value → Sem Value := fun vs => PySem.call f vs

section
variable {hS : Heap} {prog : Program} {w : World} {n : Nat}

theorem Rep.of_int {U h v i} (r : Rep U h v (.int i)) : ∃ t, v = .int i t := by cases r; exact ⟨_, rfl⟩
theorem Rep.of_str {U h v x} (r : Rep U h v (.str x)) : ∃ t, v = .str x t := by cases r; exact ⟨_, rfl⟩
theorem Rep.of_float {U h v x} (r : Rep U h v (.float x)) : ∃ t, v = .float x t := by cases r; exact ⟨_, rfl⟩
theorem Rep.of_bool {U h v b} (r : Rep U h v (.bool b)) : v = .bool b := by cases r; rfl
theorem Rep.of_none {U h v} (r : Rep U h v .none) : v = .none := by cases r; rfl
theorem Rep.of_raw {U h v u} (r : Rep U h v (.raw u)) : v = u := by cases r; rfl
theorem Rep.of_list {U h v ds} (r : Rep U h v (.list ds)) : ∃ a vs, v = .ref a ∧ ¬ U a ∧ h.PlainList a vs.toArray ∧ Reps U h vs ds := by cases r; exact ⟨_, _, rfl, ‹_›, ‹_›, ‹_›⟩
theorem Rep.of_tuple {U h v ds} (r : Rep U h v (.tuple ds)) : ∃ a vs, v = .ref a ∧ ¬ U a ∧ h.IsTuple a vs.toArray ∧ Reps U h vs ds := by cases r; exact ⟨_, _, rfl, ‹_›, ‹_›, ‹_›⟩

theorem Reps.one {U h vs d} (r : Reps U h vs [d]) : ∃ v, vs = [v] ∧ Rep U h v d := by
  cases r with | cons a r => cases r; exact ⟨_, rfl, a⟩
theorem Reps.two {U h vs d e} (r : Reps U h vs [d, e]) : ∃ u v, vs = [u, v] ∧ Rep U h u d ∧ Rep U h v e := by
  cases r with | cons a r => cases r with | cons b r => cases r; exact ⟨_, _, rfl, a, b⟩
theorem Reps.three {U h vs d e f} (r : Reps U h vs [d, e, f]) : ∃ u v x, vs = [u, v, x] ∧ Rep U h u d ∧ Rep U h v e ∧ Rep U h x f := by
  cases r with | cons a r => cases r with | cons b r => cases r with | cons c r => cases r; exact ⟨_, _, _, rfl, a, b, c⟩

theorem Op.bin {op : Operator} {d1 d2 d : D}
    (h : ∀ (A : Around) (U : Addr → Prop) (s : Shared) (v1 v2 : Value), Room A n → Rep U s.heap v1 d1 → Rep U s.heap v2 d2 →
      wpAny (model prog w) A (binaryOp op v1 v2) (fun v s' => Ext Nowhere s s' ∧ Rep U s'.heap v d) (fun _ _ => False) s) : Op hS prog w n (Bin op) [d1, d2] d := fun A U s vs r _ _ q => by
  obtain ⟨u, v, rfl, h1, h2⟩ := q.two
  exact h A U s u v r h1 h2
theorem Op.cmp {op : CmpOp} {d1 d2 d : D}
    (h : ∀ (A : Around) (U : Addr → Prop) (s : Shared) (v1 v2 : Value), Room A n → Rep U s.heap v1 d1 → Rep U s.heap v2 d2 →
      wpAny (model prog w) A (compareOp op v1 v2) (fun v s' => Ext Nowhere s s' ∧ Rep U s'.heap v d) (fun _ _ => False) s) : Op hS prog w n (Cmp op) [d1, d2] d := fun A U s vs r _ _ q => by
  obtain ⟨u, v, rfl, h1, h2⟩ := q.two
  exact h A U s u v r h1 h2
theorem Op.call1 {f : Value} {d1 d : D}
    (h : ∀ (A : Around) (U : Addr → Prop) (s : Shared) (v1 : Value), Room A n → (∀ a, U a → ∃ o, s.heap.get? a = some o) → Rep U s.heap v1 d1 →
      wpAny (model prog w) A (PySem.call f [v1]) (fun v s' => Ext Nowhere s s' ∧ Rep U s'.heap v d) (fun _ _ => False) s) : Op hS prog w n (Call f) [d1] d := fun A U s vs r _ l q => by
  obtain ⟨v, rfl, h1⟩ := q.one
  exact h A U s v r l h1

variable {a b : Int} {x y : UInt64}

/-! ints -/
theorem op_add : Op hS prog w n (Bin .Add) [.int a, .int b] (.int (a + b)) := .bin fun _ _ _ _ _ _ h1 h2 => by
  obtain ⟨_, rfl⟩ := h1.of_int; obtain ⟨_, rfl⟩ := h2.of_int
  exact add_int ⟨.tok, .int _ _⟩
theorem op_sub : Op hS prog w n (Bin .Sub) [.int a, .int b] (.int (a - b)) := .bin fun _ _ _ _ _ _ h1 h2 => by
  obtain ⟨_, rfl⟩ := h1.of_int; obtain ⟨_, rfl⟩ := h2.of_int
  exact sub_int ⟨.tok, .int _ _⟩
theorem op_mul (hm : IntMulOk a b) : Op hS prog w n (Bin .Mult) [.int a, .int b] (.int (a * b)) := .bin fun _ _ _ _ _ _ h1 h2 => by
  obtain ⟨_, rfl⟩ := h1.of_int; obtain ⟨_, rfl⟩ := h2.of_int
  exact mul_int ⟨.tok, .int _ _⟩ hm
theorem op_mod (hb : b ≠ 0) : Op hS prog w n (Bin .Mod) [.int a, .int b] (.int (a.fmod b)) := .bin fun _ _ _ _ _ _ h1 h2 => by
  obtain ⟨_, rfl⟩ := h1.of_int; obtain ⟨_, rfl⟩ := h2.of_int
  exact mod_int hb ⟨.tok, .int _ _⟩
theorem op_div (hb : b ≠ 0) (hp : Builtin.divisionGoesByPylong a b = false) : Op hS prog w n (Bin .FloorDiv) [.int a, .int b] (.int (a.fdiv b)) := .bin fun _ _ _ _ _ _ h1 h2 => by
  obtain ⟨_, rfl⟩ := h1.of_int; obtain ⟨_, rfl⟩ := h2.of_int
  exact floordiv_int hb ⟨.tok, .int _ _⟩ (.inl hp)
theorem op_pow (hb : 0 < b) (ha : 1 < a) (hs : Builtin.Int.intTooBig (((Builtin.Int.intBits a : Nat) : Int) * b) = false) : Op hS prog w n (Bin .Pow) [.int a, .int b] (.int (a ^ b.toNat)) := .bin fun _ _ _ _ _ _ h1 h2 => by
  obtain ⟨_, rfl⟩ := h1.of_int; obtain ⟨_, rfl⟩ := h2.of_int
  refine AutoIntOps.pow_4 (by omega) (by simp; omega) (by simp; omega) (by simp; omega) (by simp [hs]) ⟨.tok, .int _ _⟩
theorem op_pow0 : Op hS prog w n (Bin .Pow) [.int a, .int 0] (.int 1) := .bin fun _ _ _ _ _ _ h1 h2 => by
  obtain ⟨_, rfl⟩ := h1.of_int; obtain ⟨_, rfl⟩ := h2.of_int
  exact AutoIntOps.pow_0 (by decide) (by decide) ⟨.tok, .int _ _⟩
theorem op_truediv {f : UInt64} (hb : b ≠ 0) (hf : Float64.ofFrac (decide (a < 0) != decide (b < 0)) a.natAbs b.natAbs = f) (hi : Float64.isInf f = false) :
    Op hS prog w n (Bin .Div) [.int a, .int b] (.float f) := .bin fun _ _ _ _ _ _ h1 h2 => by
  obtain ⟨_, rfl⟩ := h1.of_int; obtain ⟨_, rfl⟩ := h2.of_int
  exact AutoIntOps.truediv_2 (by simpa using hb) (by rw [hf, hi]; simp) (by rw [hf]; exact ⟨.tok, .float _ _⟩)

theorem op_eq : Op hS prog w n (Cmp .Eq) [.int a, .int b] (.bool (a == b)) := .cmp fun _ _ _ _ _ _ h1 h2 => by
  obtain ⟨_, rfl⟩ := h1.of_int; obtain ⟨_, rfl⟩ := h2.of_int
  exact eq_int ⟨.refl _ _, .bool _⟩
theorem op_ne : Op hS prog w n (Cmp .NotEq) [.int a, .int b] (.bool (a != b)) := .cmp fun _ _ _ _ _ _ h1 h2 => by
  obtain ⟨_, rfl⟩ := h1.of_int; obtain ⟨_, rfl⟩ := h2.of_int
  exact ne_int ⟨.refl _ _, .bool _⟩
theorem op_lt : Op hS prog w n (Cmp .Lt) [.int a, .int b] (.bool (decide (a < b))) := .cmp fun _ _ _ _ _ _ h1 h2 => by
  obtain ⟨_, rfl⟩ := h1.of_int; obtain ⟨_, rfl⟩ := h2.of_int
  exact lt_int ⟨.refl _ _, .bool _⟩
theorem op_gt : Op hS prog w n (Cmp .Gt) [.int a, .int b] (.bool (decide (b < a))) := .cmp fun _ _ _ _ _ _ h1 h2 => by
  obtain ⟨_, rfl⟩ := h1.of_int; obtain ⟨_, rfl⟩ := h2.of_int
  exact gt_int ⟨.refl _ _, .bool _⟩

/-! floats -/
theorem op_fadd : Op hS prog w n (Bin .Add) [.float x, .float y] (.float (Float64.add x y)) := .bin fun _ _ _ _ _ _ h1 h2 => by
  obtain ⟨_, rfl⟩ := h1.of_float; obtain ⟨_, rfl⟩ := h2.of_float
  exact AutoFloatOps.add_0 ⟨.tok, .float _ _⟩
theorem op_fsub : Op hS prog w n (Bin .Sub) [.float x, .float y] (.float (Float64.sub x y)) := .bin fun _ _ _ _ _ _ h1 h2 => by
  obtain ⟨_, rfl⟩ := h1.of_float; obtain ⟨_, rfl⟩ := h2.of_float
  exact AutoFloatOps.sub_0 ⟨.tok, .float _ _⟩
theorem op_fmul : Op hS prog w n (Bin .Mult) [.float x, .float y] (.float (Float64.mul x y)) := .bin fun _ _ _ _ _ _ h1 h2 => by
  obtain ⟨_, rfl⟩ := h1.of_float; obtain ⟨_, rfl⟩ := h2.of_float
  exact AutoFloatOps.mul_0 ⟨.tok, .float _ _⟩
theorem op_fdiv (hz : Float64.isZero y = false) : Op hS prog w n (Bin .Div) [.float x, .float y] (.float (Float64.div x y)) := .bin fun _ _ _ _ _ _ h1 h2 => by
  obtain ⟨_, rfl⟩ := h1.of_float; obtain ⟨_, rfl⟩ := h2.of_float
  exact AutoFloatOps.truediv_1 (by simp [hz]) ⟨.tok, .float _ _⟩
theorem op_fmod (hz : Float64.isZero y = false) : Op hS prog w n (Bin .Mod) [.float x, .float y] (.float (Float64.divmod x y).2) := .bin fun _ _ _ _ _ _ h1 h2 => by
  obtain ⟨_, rfl⟩ := h1.of_float; obtain ⟨_, rfl⟩ := h2.of_float
  exact AutoFloatOps.mod_1 (by simp [hz]) ⟨.tok, .float _ _⟩
theorem op_fsub_i (hi : Float64.isInf (Float64.ofInt b) = false) : Op hS prog w n (Bin .Sub) [.float x, .int b] (.float (Float64.sub x (Float64.ofInt b))) := .bin fun _ _ _ _ _ _ h1 h2 => by
  obtain ⟨_, rfl⟩ := h1.of_float; obtain ⟨_, rfl⟩ := h2.of_int
  exact AutoFloatOps.sub_fi_1 (by simp [hi]) ⟨.tok, .float _ _⟩
theorem op_imul_f (hi : Float64.isInf (Float64.ofInt b) = false) : Op hS prog w n (Bin .Mult) [.int b, .float x] (.float (Float64.mul (Float64.ofInt b) x)) := .bin fun _ _ _ _ _ _ h1 h2 => by
  obtain ⟨_, rfl⟩ := h1.of_int; obtain ⟨_, rfl⟩ := h2.of_float
  exact AutoFloatOps.mul_if_1 (by simp [hi]) ⟨.tok, .float _ _⟩
theorem op_feq : Op hS prog w n (Cmp .Eq) [.float x, .float y] (.bool (Float64.cmp x y == some .eq)) := .cmp fun _ _ _ _ _ _ h1 h2 => by
  obtain ⟨_, rfl⟩ := h1.of_float; obtain ⟨_, rfl⟩ := h2.of_float
  exact AutoFloatOps.eq_0 ⟨.refl _ _, .bool _⟩

/-! texts -/
noncomputable def S (l : List Nat) : Str := ⟨l.toArray⟩
theorem S_append (a b : List Nat) : S a ++ S b = S (a ++ b) := by
  show (⟨a.toArray ++ b.toArray⟩ : Str) = ⟨(a ++ b).toArray⟩
  simp
theorem S_length (a : List Nat) : (S a).length = a.length := by simp [S, Str.length]
theorem S_beq (a b : List Nat) : (S a == S b) = (a == b) := by
  rw [← toList_beq]; simp [S]
theorem S_bne (a b : List Nat) : (S a != S b) = (a != b) := by simp only [bne, S_beq]
theorem S_inj {a b : List Nat} (h : S a = S b) : a = b := by
  have := congrArg (fun z : Str => z.cps.toList) h
  simpa [S] using this
theorem S_cps (x : Str) : S x.cps.toList = x := by cases x; simp [S]

variable {p q : List Nat}
theorem op_sadd (h : p.length + q.length ≤ 1000000) : Op hS prog w n (Bin .Add) [.str (S p), .str (S q)] (.str (S (p ++ q))) := .bin fun _ _ _ _ _ _ h1 h2 => by
  obtain ⟨_, rfl⟩ := h1.of_str; obtain ⟨_, rfl⟩ := h2.of_str
  exact add_str (fun _ _ => by rw [S_append]; exact ⟨.tok, .str _ _⟩) (by rw [S_length, S_length]; exact Nat.le_trans h (by decide))
theorem op_seq : Op hS prog w n (Cmp .Eq) [.str (S p), .str (S q)] (.bool (p == q)) := .cmp fun _ _ _ _ _ _ h1 h2 => by
  obtain ⟨_, rfl⟩ := h1.of_str; obtain ⟨_, rfl⟩ := h2.of_str
  exact eq_str (by rw [S_beq]; exact ⟨.refl _ _, .bool _⟩)
theorem op_sne : Op hS prog w n (Cmp .NotEq) [.str (S p), .str (S q)] (.bool (p != q)) := .cmp fun _ _ _ _ _ _ h1 h2 => by
  obtain ⟨_, rfl⟩ := h1.of_str; obtain ⟨_, rfl⟩ := h2.of_str
  exact ne_str (by rw [S_bne]; exact ⟨.refl _ _, .bool _⟩)
end
end
section
section
variable {hS : Heap} {prog : Program} {w : World} {n : Nat}

theorem fresh_not {U : Addr → Prop} {h : Heap} (l : ∀ a, U a → ∃ o, h.get? a = some o) : ¬ U h.objs.size := fun u => by
  obtain ⟨o, e⟩ := l _ u
  exact Nat.lt_irrefl _ (Heap.lt_size e)

theorem ext_push {M : Addr → Prop} {s : Shared} (o : Obj) : Ext M s { s with heap := s.heap.push o } := .heap (tk := s.toks) fun _ _ e => Heap.get?_push_of_some _ e
theorem rep_newList {U : Addr → Prop} {h : Heap} {vs : List Value} {ds : List D} (l : ∀ a, U a → ∃ o, h.get? a = some o) (r : Reps U h vs ds) :
    Rep U (h.push { cls := .type "list", data := .seq vs.toArray }) (.ref h.objs.size) (.list ds) :=
  .list _ vs ds (fresh_not l) ⟨_, Heap.get?_push_size _ rfl⟩ (r.move fun _ _ n _ e => ⟨Heap.get?_push_of_some _ e, n⟩)
theorem rep_newTuple {U : Addr → Prop} {h : Heap} {vs : List Value} {ds : List D} (l : ∀ a, U a → ∃ o, h.get? a = some o) (r : Reps U h vs ds) :
    Rep U (h.push { cls := .type "tuple", data := .seq vs.toArray }) (.ref h.objs.size) (.tuple ds) :=
  .tuple _ vs ds (fresh_not l) ⟨_, Heap.get?_push_size _ rfl, rfl, _, rfl⟩ (r.move fun _ _ n _ e => ⟨Heap.get?_push_of_some _ e, n⟩)

theorem op_ladd {p q : List D} (hsz : p.length + q.length ≤ 1000000) : Op hS prog w n (Bin .Add) [.list p, .list q] (.list (p ++ q)) := fun A U s vs r _ low qq => by
  obtain ⟨u, v, rfl, h1, h2⟩ := qq.two
  obtain ⟨l, vs, rfl, _, hl, r1⟩ := h1.of_list
  obtain ⟨b, ws, rfl, _, hb, r2⟩ := h2.of_list
  obtain ⟨n, ho⟩ := id hl
  obtain ⟨n2, ho2⟩ := id hb
  have e : vs.toArray ++ ws.toArray = (vs ++ ws).toArray := by simp
  refine concat_meets ⟨_, ho, rfl⟩ ⟨_, ho2, rfl⟩ noFill_list_add seq_list_add PySem.F.slot_list_add PySem.F.entry_list_add (PySem.F.args_list_add_2 _ _)
    (list_addW l b vs.toArray ws.toArray n n2 none none #[] #[] (by simp only [List.size_toArray]; rw [r1.length, r2.length]; exact Nat.le_trans hsz (by decide))) ⟨ho, ho2, ?_⟩
  rw [e]
  exact ⟨ext_push _, rep_newList low (r1.append r2)⟩

variable {W : Wd hS} {sc : Scope} {vars : List Str} {ρ : List (Option D)} {st st₁ st₂ st₃ : W.σ}

/-! items -/
theorem EV.item {value slice : Expr} {pos : Pos} {d1 d2 d : D} (h1 : EV prog w n W sc vars ρ st value d1 st₁) (h2 : EV prog w n W sc vars ρ st₁ slice d2 st₂)
    (ho : Op hS prog w n (fun vs => match vs with | [a, b] => subscriptTail value slice a b | _ => pure .none) [d1, d2] d) : EV prog w n W sc vars ρ st (.Subscript value slice pos) d st₂ :=
  h1.two h2 ho fun _ h => Subscript_ h

noncomputable def PlainIdx (slice : Expr) : Prop := ∀ o i, subscripted slice false o i = operate [o, i] (getItem o i)

theorem op_litem {value slice : Expr} {ds : List D} {k : Int} {d : D} (h0 : 0 ≤ k) (h1 : k < 2 ^ 63) (hd : ds[k.toNat]? = some d) (hs : PlainIdx slice) :
    Op hS prog w n (fun vs => match vs with | [a, b] => subscriptTail value slice a b | _ => pure .none) [.list ds, .int k] d := fun A U s vs r _ low qq => by
  obtain ⟨u, v, rfl, q1, q2⟩ := qq.two
  obtain ⟨l, vs, rfl, _, hl, r1⟩ := q1.of_list
  obtain ⟨t, rfl⟩ := q2.of_int
  obtain ⟨x, hx, hr⟩ := r1.get _ hd
  exact tail_any hl.isList.typeIs slot_list_getitem.lookup (wpAny_getItem_list hl.isList h0 h1 (by simpa using hx) ⟨.refl _ _, hr⟩) (hs _ _)

theorem isTup_of {h : Heap} {a : Addr} {items : Array Value} (x : h.IsTuple a items) : IsTup h a items := x

theorem op_titem {value slice : Expr} {ds : List D} {k : Int} {d : D} (h0 : 0 ≤ k) (h1 : k < 2 ^ 63) (hd : ds[k.toNat]? = some d) (hs : PlainIdx slice) :
    Op hS prog w n (fun vs => match vs with | [a, b] => subscriptTail value slice a b | _ => pure .none) [.tuple ds, .int k] d := fun A U s vs r _ low qq => by
  obtain ⟨u, v, rfl, q1, q2⟩ := qq.two
  obtain ⟨l, vs, rfl, _, hl, r1⟩ := q1.of_tuple
  obtain ⟨t, rfl⟩ := q2.of_int
  obtain ⟨x, hx, hr⟩ := r1.get _ hd
  have hlt : k.toNat < vs.length := (List.getElem?_eq_some_iff.mp hx).1
  refine tail_any (T := "tuple") (isTup_of hl).typeIs (by first | exact F.slot_tuple_getitem.lookup | exact slot_tuple_getitem.lookup) (PyProof.Rows.getItem_tuple (j := k.toNat) (isTup_of hl) (by omega) h1 (by rw [List.size_toArray]; exact seqIndex_of h0 (by omega)) (by simpa using hx) ⟨.refl _ _, hr⟩) (hs _ _)

theorem op_sitem {value slice : Expr} {p : List Nat} {k : Int} {c : Nat} (h0 : 0 ≤ k) (h1 : k < 2 ^ 63) (hd : p[k.toNat]? = some c) (hs : PlainIdx slice) :
    Op hS prog w n (fun vs => match vs with | [a, b] => subscriptTail value slice a b | _ => pure .none) [.str (S p), .int k] (.str (S [c])) := fun A U s vs r _ low qq => by
  obtain ⟨u, v, rfl, q1, q2⟩ := qq.two
  obtain ⟨t', rfl⟩ := q1.of_str
  obtain ⟨t, rfl⟩ := q2.of_int
  have hlt : k.toNat < p.length := (List.getElem?_eq_some_iff.mp hd).1
  refine tail_any (T := "str") rfl F.slot_str_getitem.lookup (PyProof.Rows.getItem_str (c := c) (by simp; omega) ?_ ⟨.tok, .str _ _⟩) (hs _ _)
  rw [S_length, seqIndex_of h0 (by omega)]
  simpa [S] using hd
end
end
section
section
variable {hS : Heap} {prog : Program} {w : World} {n : Nat}
variable {W : Wd hS} {sc : Scope} {vars : List Str} {ρ : List (Option D)} {st st₁ st₂ st₃ : W.σ}

theorem EV.str (p : List Nat) {x : Str} {k pos} (h : x = S p := by decide +kernel) : EV prog w n W sc vars ρ st (.Constant (.str x) k pos) (.str (S p)) st := h ▸ EV.strC x

theorem EVs.run {es : List Expr} {ds : List D} (q : EVs prog w n W sc vars ρ st es ds st₁) : ∀ {A : Around} {env : Env} {U : Addr → Prop} {s : Shared} {pos : Pos}, Room A n → Fits sc env → Stand W U env vars ρ st s →
    wpAny (model prog w) A (spliced (backTo pos (starEach es env))) (fun vs s' => Ext W.Mut s s' ∧ W.holds st₁ s' ∧ Reps U s'.heap vs ds) (fun _ _ => False) s := by
  induction q with
  | nil => intro A env U s pos _ _ I; exact args_nil ⟨.refl _ _, I.hold, .nil⟩
  | cons h1 _ he ih =>
    intro A env U s pos r f I
    refine args_cons (wpAny_mono (h1 A env U s r f I) (fun v s1 q1 => ?_) fun _ _ x => x) (he env)
    refine wpAny_mono (ih r f (I.step q1.1 q1.2.1)) (fun vs s2 q2 => ?_) fun _ _ x => x
    exact ⟨q1.1.trans q2.1, q2.2.1, .cons (q1.2.2.ext q2.1 I.mutU) q2.2.2⟩
theorem EVs.plain {es : List Expr} {ds : List D} (q : EVs prog w n W sc vars ρ st es ds st₁) (env : Env) (pos : Pos) : (backTo pos (starEach es env)).any (·.1) = false := by
  induction q with
  | nil => rfl
  | cons _ _ he ih => rw [he env]; show (false || (backTo pos (starEach _ env)).any (·.1)) = false; rw [ih]; rfl
theorem EVs.args {es : List Expr} {ds : List D} (q : EVs prog w n W sc vars ρ st es ds st₁) {A : Around} {env : Env} {U : Addr → Prop} {s : Shared} {pos : Pos} {f : Value} (r : Room A n) (ft : Fits sc env) (I : Stand W U env vars ρ st s) :
    wpAny (model prog w) A (evalArgs f true (backTo pos (starEach es env)) []) (fun a s' => ∃ vs, a = ⟨vs, []⟩ ∧ Ext W.Mut s s' ∧ W.holds st₁ s' ∧ Reps U s'.heap vs ds) (fun _ _ => False) s := by
  cases q with
  | nil => exact PySem.evalArgs_none ⟨_, rfl, .refl _ _, I.hold, .nil⟩
  | cons h1 h2 he =>
    have q := EVs.run (.cons h1 h2 he) (pos := pos) r ft I
    rw [he env] at q ⊢
    exact Calls.evalArgs_plain (wpAny_mono q (fun vs s' h => ⟨vs, rfl, h⟩) fun _ _ x => x)

theorem EV.list {es : List Expr} {ds : List D} {pos : Pos} (q : EVs prog w n W sc vars ρ st es ds st₁) (hsz : ds.length ≤ 1000000 := by simp) : EV prog w n W sc vars ρ st (.List es pos) (.list ds) st₁ := fun A env U s r f I => by
  refine List_ (wpAny_mono (q.run r f I) (fun vs s1 q1 => ?_) fun _ _ x => x)
  have I1 := I.step q1.1 q1.2.1
  refine wpAny_newObj_type ⟨q1.1.trans (ext_push _), I1.hold0 (ext_push _), rep_newList I1.low q1.2.2⟩ ?_
  show vs.toArray.size ≤ sizeLine
  rw [List.size_toArray, q1.2.2.length]; exact Nat.le_trans hsz (by decide)
theorem EV.tuple {es : List Expr} {ds : List D} {k : Nat} {pos : Pos} (q : EVs prog w n W sc vars ρ st es ds st₁) (hsz : ds.length ≤ 1000000 := by simp) : EV prog w n W sc vars ρ st (.Tuple es k pos) (.tuple ds) st₁ := fun A env U s r f I => by
  refine Tuple_ (wpAny_mono (q.run r f I) (fun vs s1 q1 => ?_) fun _ _ x => x)
  have I1 := I.step q1.1 q1.2.1
  refine wpAny_newObj_type ⟨q1.1.trans (ext_push _), I1.hold0 (ext_push _), rep_newTuple I1.low q1.2.2⟩ ?_
  show vs.toArray.size ≤ sizeLine
  rw [List.size_toArray, q1.2.2.length]; exact Nat.le_trans hsz (by decide)

/-! calls -/
inductive Callee (hS : Heap) : Value → Prop
  | builtin (id) : Callee hS (.builtin id)
  | type (T) : Callee hS (.type T)
  | func (a o fd) : hS.get? a = some o → o.data = .func fd → Callee hS (.ref a)

theorem callWith_of {f : Value} (c : Callee hS f) {es : List Expr} {ds : List D} (q : EVs prog w n W sc vars ρ st es ds st₁) {A : Around} {env : Env} {U : Addr → Prop} {s : Shared} {pos : Pos} {first : List Value} {Q : Value → Shared → Prop}
    (r : Room A n) (ft : Fits sc env) (I : Stand W U env vars ρ st s)
    (h : ∀ vs s', Ext W.Mut s s' → Stand W U env vars ρ st₁ s' → Reps U s'.heap vs ds → wpAny (model prog w) A (PySem.call f (first ++ vs)) Q (fun _ _ => False) s') :
    wpAny (model prog w) A (callWith pos f first (backTo pos (starEach es env)) []) Q (fun _ _ => False) s := by
  have k : wpAny (model prog w) A (evalArgs f true (backTo pos (starEach es env)) []) (fun a s' => ∃ vs, a = ⟨vs, []⟩ ∧ Stand W U env vars ρ st₁ s' ∧ wpAny (model prog w) A (PySem.call f (first ++ vs)) Q (fun _ _ => False) s') (fun _ _ => False) s :=
    wpAny_mono (q.args r ft I) (fun a s' ⟨vs, e, x, hh, rr⟩ => ⟨vs, e, I.step x hh, h vs s' x (I.step x hh) rr⟩) fun _ _ x => x
  cases c with
  | builtin id => exact Calls.callWith_builtin (q.plain env pos) (wpAny_mono k (fun a s' ⟨vs, e, _, y⟩ => by subst e; exact y) fun _ _ x => x)
  | type T => exact PyProof.Rows.callWith_type (q.plain env pos) (wpAny_mono k (fun a s' ⟨vs, e, _, y⟩ => by subst e; exact y) fun _ _ x => x)
  | func a o fd ho hd => exact Calls.callWith_function (o := o) (fd := fd) (wpAny_mono k (fun a s' ⟨vs, e, J, y⟩ => by subst e; exact ⟨⟨J.static _ _ ho, hd⟩, y⟩) fun _ _ x => x)

/-- a call of a name, pure in what is called -/
theorem EV.call {x : Str} {p pos : Pos} {args : List Expr} {f : Value} {ds : List D} {d : D} (hf : EV prog w n W sc vars ρ st (.Name x p) (.raw f) st₁) (c : Callee hS f)
    (q : EVs prog w n W sc vars ρ st₁ args ds st₂) (ho : Op hS prog w n (Call f) ds d) : EV prog w n W sc vars ρ st (.Call (.Name x p) args [] pos) d st₂ := fun A env U s r ft I => by
  refine Call_ (wpAny_mono (hf A env U s r ft I) (fun v s1 q1 => ?_) fun _ _ x => x)
  have e := q1.2.2.of_raw
  subst e
  refine callWith_of c q r ft (I.step q1.1 q1.2.1) fun vs s2 x2 I2 r2 => ?_
  refine wpAny_mono (ho A U s2 vs r I2.static I2.low r2) (fun v' s3 q3 => ?_) fun _ _ x => x
  exact ⟨(q1.1.trans x2).trans q3.1.any, I2.hold0 q3.1, q3.2⟩

/-- a method of a built-in value -/
noncomputable def HasMeth (d : D) (name : Str) (id : String) : Prop :=
  ∀ {prog : Program} {w : World} {A : Around} {U : Addr → Prop} {s : Shared} {v : Value} {pl : Sem Bool} {Q : Value × List Value → Shared → Prop} {E : Value → Shared → Prop}, Rep U s.heap v d → Q (.builtin id, [v]) s → wpAny (model prog w) A (getMethod v name pl) Q E s

theorem EV.meth {o : Expr} {name : Str} {apos pos : Pos} {args : List Expr} {d0 : D} {ds : List D} {d : D} {id : String} {pl : Env → Sem Bool} (hf : EV prog w n W sc vars ρ st o d0 st₁) (m : HasMeth d0 name id)
    (q : EVs prog w n W sc vars ρ st₁ args ds st₂) (ho : Op hS prog w n (Call (.builtin id)) (d0 :: ds) d)
    (he : ∀ env, eval (.Call (.Attribute o name apos) args [] pos) env = (do
      let ov ← eval o env
      standAt apos.atName
      let (f, first) ← holding [ov] (getMethod ov name (pl env))
      callWith pos f first (backTo pos (starEach args env)) []) := by intro _; rfl) : EV prog w n W sc vars ρ st (.Call (.Attribute o name apos) args [] pos) d st₂ := fun A env U s r ft I => by
  refine MethodCall_ (pl := pl env) (wpAny_mono (hf A env U s r ft I) (fun v s1 q1 => ?_) fun _ _ x => x) (he env)
  refine m q1.2.2 ?_
  refine callWith_of (.builtin id) q r ft (I.step q1.1 q1.2.1) fun vs s2 x2 I2 r2 => ?_
  refine wpAny_mono (ho A U s2 (v :: vs) r I2.static I2.low (.cons (q1.2.2.ext x2 I.mutU) r2)) (fun v' s3 q3 => ?_) fun _ _ x => x
  exact ⟨(q1.1.trans x2).trans q3.1.any, I2.hold0 q3.1, q3.2⟩

theorem meth_join {x : Str} : HasMeth (.str x) "join" "str.join" := fun r h => by obtain ⟨t, rfl⟩ := r.of_str; exact GM.join h
theorem meth_count {ds : List D} : HasMeth (.list ds) "count" "list.count" := fun r h => by
  obtain ⟨a, vs, rfl, _, ⟨m, e⟩, _⟩ := r.of_list
  exact getMethod_list_of PySem.F.slot_list_count (by first | rfl | kernel_rfl) (items := vs.toArray) ⟨_, e, rfl, _, rfl⟩ ⟨_, e, rfl⟩ h
theorem meth_index {ds : List D} : HasMeth (.list ds) "index" "list.index" := fun r h => by
  obtain ⟨a, vs, rfl, _, ⟨m, e⟩, _⟩ := r.of_list
  exact getMethod_list_of PySem.F.slot_list_index (by first | rfl | kernel_rfl) (items := vs.toArray) ⟨_, e, rfl, _, rfl⟩ ⟨_, e, rfl⟩ h
end
end
section
section
variable {hS : Heap} {prog : Program} {w : World} {n : Nat}
variable {W : Wd hS} {sc : Scope} {vars : List Str} {ρ : List (Option D)} {st st₁ st₂ st₃ : W.σ}

theorem ns_not_cell {h : Heap} {a : Addr} {m v} (x : h.Ns a m) (y : h.IsCell a v) : False := by
  obtain ⟨o, es, ep, e, hd, _⟩ := x
  obtain ⟨o', e', hd'⟩ := y
  rw [e] at e'; cases e'; rw [hd] at hd'; cases hd'
theorem ns_not_seq {h : Heap} {a : Addr} {m} {o : Obj} {xs k} (x : h.Ns a m) (e' : h.get? a = some o) (hd' : o.data = .seq xs k) : False := by
  obtain ⟨o2, es, ep, e, hd, _⟩ := x
  rw [e] at e'; cases e'; rw [hd] at hd'; cases hd'
theorem cell_not_seq {h : Heap} {a : Addr} {v} {o : Obj} {xs k} (x : h.IsCell a v) (e' : h.get? a = some o) (hd' : o.data = .seq xs k) : False := by
  obtain ⟨o2, e, hd⟩ := x
  rw [e] at e'; cases e'; rw [hd] at hd'; cases hd'

/-- what the frame itself may change when the names xs are stored -/
noncomputable def Own (env : Env) (xs : List Str) : Addr → Prop := fun a => a = env.locals ∨ ∃ x ∈ xs, env.cells.lookup x = some a
theorem Own.mono {env : Env} {xs ys : List Str} (h : ∀ x ∈ xs, x ∈ ys) : ∀ a, Own env xs a → Own env ys a := fun _ o => o.imp id fun ⟨x, hx, e⟩ => ⟨x, h x hx, e⟩

noncomputable def Stored (env : Env) (x : Str) : Prop := env.kindOf x = some .local ∨ (env.kindOf x = some .cell ∧ ∃ c, env.cells.lookup x = some c)

theorem Stand.store {A : Around} {env : Env} {U : Addr → Prop} {s : Shared} {i : Nat} {x : Str} {d : D} {v : Value} (I : Stand W U env vars ρ st s) (f : Fits sc env) (nd : vars.Nodup) (hx : vars[i]? = some x) (hk : Stored env x) (r : Rep U s.heap v d) :
    wpAny (model prog w) A (storeName env x v) (fun _ s' => Ext (Own env [x]) s s' ∧ Stand W U env vars (ρ.set i (some d)) st s') (fun _ _ => False) s := by
  have hkind : env.scope.kind = .function := by rw [f.scope]; exact f.kind
  obtain ⟨m₀, hm₀⟩ := I.ns
  have other : ∀ (j : Nat) (y : Str) (e : D), vars[j]? = some y → (ρ.set i (some d))[j]? = some (some e) → (j = i ∧ e = d) ∨ (y ≠ x ∧ ρ[j]? = some (some e)) := fun j y e h1 h2 => by
    by_cases hj : j = i
    · subst hj
      left
      rw [List.getElem?_set_self'] at h2
      refine ⟨rfl, ?_⟩
      cases hq : ρ[j]? with
      | none => rw [hq] at h2; cases h2
      | some q => rw [hq] at h2; cases h2; rfl
    · right
      rw [List.getElem?_set_ne (fun q => hj q.symm)] at h2
      refine ⟨fun q => ?_, h2⟩
      subst q
      obtain ⟨l1, e1⟩ := List.getElem?_eq_some_iff.mp h1
      obtain ⟨l2, e2⟩ := List.getElem?_eq_some_iff.mp hx
      have pw := List.pairwise_iff_getElem.mp nd
      rcases Nat.lt_or_gt_of_ne hj with q | q
      · exact pw j i l1 l2 q (e1.trans e2.symm)
      · exact pw i j l2 l1 q (e2.trans e1.symm)
  rcases hk with hl | ⟨hl, c, hc⟩
  · refine wpAny_storeName_local hl hm₀ (fun h' hn' hs => ?_) (by rw [hkind]; rfl)
    have keep : ∀ b o, b ≠ env.locals → s.heap.get? b = some o → h'.get? b = some o := fun b o hb e => (hs.2 b hb).trans e
    have cne : ∀ y c, env.cells.lookup y = some c → c ≠ env.locals := fun y c hc q => by obtain ⟨u, hu⟩ := I.cellv y c hc; exact ns_not_cell hm₀ (q ▸ hu)
    refine ⟨⟨fun b o hb e => keep b o (fun q => hb (.inl q)) e, rfl, Nat.le_refl _, fun _ _ => rfl, fun b => b⟩, ?_⟩
    refine ⟨fun a o e => keep a o (fun q => ?_) (I.static a o e), I.mutU, fun a u => ?_, W.stable I.hold (fun a o fa e => keep a o (fun q => I.locals (q ▸ fa)) e) (fun a o e => keep a o (fun q => ?_) (I.static a o e)),
      ⟨_, hn'⟩, I.locals, I.localsS, I.cells, I.cellsS, fun y c hc => ?_, I.inj, fun j y e h1 h2 => ?_⟩
    · rw [q, I.localsS] at e; cases e
    · by_cases q : a = env.locals
      · obtain ⟨o, _, _, e, _⟩ := hn'; exact ⟨o, q ▸ e⟩
      · obtain ⟨o, e⟩ := I.low a u; exact ⟨o, keep a o q e⟩
    · rw [q, I.localsS] at e; cases e
    · obtain ⟨u, hu⟩ := I.cellv y c hc
      exact ⟨u, isCell_at hu fun o e => keep _ o (cne y c hc) e⟩
    · have rm : ∀ {v' : Value} {d' : D}, Rep U s.heap v' d' → Rep U h' v' d' := fun r => r.move fun a o hn ⟨xs, k, hd⟩ e => ⟨keep a o (fun q => ns_not_seq hm₀ (q ▸ e) hd) e, hn⟩
      rcases other j y e h1 h2 with ⟨rfl, rfl⟩ | ⟨hne, h3⟩
      · rw [hx] at h1; cases h1
        exact ⟨v, .inl ⟨hl, _, hn', by simp⟩, rm r⟩
      · obtain ⟨u, hu, hr⟩ := I.sto j y e h1 h3
        refine ⟨u, ?_, rm hr⟩
        rcases hu with ⟨k1, m, hm, hv⟩ | ⟨k1, c, hc, hv⟩
        · refine .inl ⟨k1, _, hn', ?_⟩
          show (if y = x then some v else m₀ y) = some u
          rw [if_neg hne]
          rw [← Heap.Ns.agree hm hm₀ y]; exact hv
        · exact .inr ⟨k1, c, hc, isCell_at hv fun o e => keep _ o (cne y c hc) e⟩
  · refine wpAny_storeName_cell hkind hl hc (I.cellv x c hc).choose_spec (fun h' hn' hs => ?_)
    have keep : ∀ b o, b ≠ c → s.heap.get? b = some o → h'.get? b = some o := fun b o hb e => (hs.2 b hb).trans e
    obtain ⟨u₀, hu₀⟩ := I.cellv x c hc
    have lne : env.locals ≠ c := fun q => ns_not_cell (q ▸ hm₀) hu₀
    refine ⟨⟨fun b o hb e => keep b o (fun q => hb (.inr ⟨x, by simp, q ▸ hc⟩)) e, rfl, Nat.le_refl _, fun _ _ => rfl, fun b => b⟩, ?_⟩
    refine ⟨fun a o e => keep a o (fun q => ?_) (I.static a o e), I.mutU, fun a u => ?_, W.stable I.hold (fun a o fa e => keep a o (fun q => I.cells x c hc (q ▸ fa)) e) (fun a o e => keep a o (fun q => ?_) (I.static a o e)),
      ⟨_, hm₀.at' fun o e => keep _ o lne e⟩, I.locals, I.localsS, I.cells, I.cellsS, fun y c' hc' => ?_, I.inj, fun j y e h1 h2 => ?_⟩
    · rw [q, I.cellsS x c hc] at e; cases e
    · by_cases q : a = c
      · obtain ⟨o, e, _⟩ := hn'; exact ⟨o, q ▸ e⟩
      · obtain ⟨o, e⟩ := I.low a u; exact ⟨o, keep a o q e⟩
    · rw [q, I.cellsS x c hc] at e; cases e
    · by_cases q : c' = c
      · exact ⟨_, q ▸ hn'⟩
      · obtain ⟨u, hu⟩ := I.cellv y c' hc'
        exact ⟨u, isCell_at hu fun o e => keep _ o q e⟩
    · have rm : ∀ {v' : Value} {d' : D}, Rep U s.heap v' d' → Rep U h' v' d' := fun r => r.move fun a o hn ⟨xs, k, hd⟩ e => ⟨keep a o (fun q => cell_not_seq hu₀ (q ▸ e) hd) e, hn⟩
      rcases other j y e h1 h2 with ⟨rfl, rfl⟩ | ⟨hne, h3⟩
      · rw [hx] at h1; cases h1
        exact ⟨v, .inr ⟨.inl hl, c, hc, hn'⟩, rm r⟩
      · obtain ⟨u, hu, hr⟩ := I.sto j y e h1 h3
        refine ⟨u, ?_, rm hr⟩
        rcases hu with ⟨k1, m, hm, hv⟩ | ⟨k1, c', hc', hv⟩
        · exact .inl ⟨k1, m, hm.at' fun o e => keep _ o lne e, hv⟩
        · exact .inr ⟨k1, c', hc', isCell_at hv fun o e => keep _ o (fun q => hne (I.inj y x c (q ▸ hc') hc)) e⟩
end
end
section
section
variable {hS : Heap} {prog : Program} {w : World} {n : Nat}
variable {W : Wd hS} {sc : Scope} {vars : List Str} {ρ : List (Option D)} {st st₁ st₂ st₃ : W.σ}

/-! what is gone through -/
noncomputable def It (prog : Program) (w : World) (A : Around) (W : Wd hS) (U : Addr → Prop) (s₀ s₂ : Shared) (it : Value) (ds : List D) : Prop :=
  ∃ I fp wr P St, it = .ref I ∧ Walks prog w A I fp wr ds.length P St ∧ St 0 s₂.heap ∧ (∀ b ∈ fp, (∃ o, s₂.heap.get? b = some o ∧ (∀ es k, o.data ≠ .dict es k) ∧ ∀ v, o.data ≠ .cell v) ∧ ¬ W.Mut b) ∧ (∀ b ∈ wr, s₀.heap.get? b = none) ∧
    (∀ (i : Nat) (s : Shared) (t : Expr) (v : Value) (Q : Unit → Shared → Prop), St i s.heap → Q () s → wpAny (model prog w) A (letOwnedTupleGo t (.ref I) v) Q (fun _ _ => False) s) ∧
    (∀ (i : Nat) (h : Heap), St i h → ∀ b ∈ wr, ∃ o, h.get? b = some o) ∧
    (∀ (i : Nat) (v : Value), i < ds.length → P i v → ∃ d, ds[i]? = some d ∧ Rep (fun a => U a ∨ a ∈ wr) s₂.heap v d)

noncomputable def EVit (prog : Program) (w : World) (n : Nat) (W : Wd hS) (sc : Scope) (vars : List Str) (ρ : List (Option D)) (st : W.σ) (e : Expr) (ds : List D) (st' : W.σ) : Prop :=
  ∀ (A : Around) (env : Env) (U : Addr → Prop) (s : Shared), Room A n → Fits sc env → Stand W U env vars ρ st s →
    wpAny (model prog w) A (eval e env) (fun xv s₁ => wpAny (model prog w) A (pyIter xv) (fun it s₂ => Ext W.Mut s s₂ ∧ W.holds st' s₂ ∧ It prog w A W U s s₂ it ds) (fun _ _ => False) s₁) (fun _ _ => False) s

theorem letgo_of {A : Around} {I : Addr} {s : Shared} {o : Obj} {T : String} {t : Expr} {v : Value} {Q : Unit → Shared → Prop} (ho : s.heap.get? I = some o) (hc : o.cls = .type T)
    (hT : (["enumerate", "zip", "dict_itemiterator", "dict_reverseitemiterator", "odict_iterator", "itertools.zip_longest", "itertools.pairwise"].contains T) = false) (h : Q () s) :
    wpAny (model prog w) A (letOwnedTupleGo t (.ref I) v) Q (fun _ _ => False) s := by
  unfold letOwnedTupleGo
  have key : wpAny (model prog w) A (do
      let (.ref r, .ref a) := (Value.ref I, v) | return
      let o ← load r
      match o.cls, o.data with
      | .type n, .fields vs =>
        if ["enumerate", "zip", "dict_itemiterator", "dict_reverseitemiterator", "odict_iterator", "itertools.zip_longest", "itertools.pairwise"].contains n && vs[0]? == some (rawInt a) then
          rule "for.unpacks-the-owned-tuple"
          updateField r 0 .none
      | _, _ => pure () : Sem Unit) Q (fun _ _ => False) s := by
    cases v with
    | ref a =>
      refine wpAny_bind (wpAny_load ho ?_)
      rw [hc]
      split
      · rename_i k vs e1 e2
        cases e1
        rw [hT, Bool.false_and]
        exact wpAny_pure h
      · exact wpAny_pure h
    | _ => exact wpAny_pure h
  cases t <;> first | exact key | exact wpAny_pure h

theorem alive_push {h : Heap} {o : Obj} (hf : o.isFreed = false := by rfl) (h1 : ∀ es k, o.data ≠ .dict es k := by intro _ _ e; cases e) (h2 : ∀ v, o.data ≠ .cell v := by intro _ e; cases e) :
    ∃ o', (h.push o).get? h.objs.size = some o' ∧ (∀ es k, o'.data ≠ .dict es k) ∧ ∀ v, o'.data ≠ .cell v := ⟨o, Heap.get?_push_size _ hf, h1, h2⟩
theorem get_size_none (h : Heap) : h.get? h.objs.size = none := by
  cases e : h.get? h.objs.size with
  | none => rfl
  | some o => exact absurd (Heap.lt_size e) (Nat.lt_irrefl _)
theorem fresh_of_ext {M : Addr → Prop} {s s' : Shared} (x : Ext M s s') (hM : ∀ a, M a → ∃ o, s'.heap.get? a = some o) {a : Addr} (h : s'.heap.get? a = none) : s.heap.get? a = none := by
  cases e : s.heap.get? a with
  | none => rfl
  | some o =>
    by_cases m : M a
    · obtain ⟨o', e'⟩ := hM a m; rw [h] at e'; cases e'
    · rw [x.keep a o m e] at h; cases h

theorem reps_behind {U : Addr → Prop} {s₁ s₂ : Shared} {I : Addr} {vs : List Value} {ds : List D} (r : Reps U s₁.heap vs ds) (hI : s₁.heap.get? I = none) (x : Ext Nowhere s₁ s₂) :
    Reps (fun a => U a ∨ a ∈ [I]) s₂.heap vs ds := r.move fun a o nu _ e => ⟨x.keep a o id e, by
      rintro (m | m)
      · exact nu m
      · rcases List.mem_cons.mp m with q | q
        · rw [q, hI] at e; cases e
        · cases q⟩

theorem EVit.list {e : Expr} {ds : List D} (h : EV prog w n W sc vars ρ st e (.list ds) st₁) : EVit prog w n W sc vars ρ st e ds st₁ := fun A env U s r f I => by
  refine wpAny_mono (h A env U s r f I) (fun v s1 q1 => ?_) fun _ _ x => x
  obtain ⟨x1, h1, r1⟩ := q1
  have I1 := I.step x1 h1
  obtain ⟨a, vs, rfl, nu, hp, rr⟩ := r1.of_list
  have hl := hp.isList
  have hlt : a < s1.heap.objs.size := by obtain ⟨o, e, _⟩ := hl; exact Heap.lt_size e
  have hn := get_size_none s1.heap
  have Wk : Walks prog w A s1.heap.objs.size [s1.heap.objs.size, a] [s1.heap.objs.size] ds.length (fun i v => vs.toArray[i]? = some v) (fun i h => h.IsListIter s1.heap.objs.size a i ∧ h.IsList a vs.toArray) := by
    have e : ds.length = vs.toArray.size := by rw [List.size_toArray, rr.length]
    rw [e]
    exact Walks.list r.handled _ a (Nat.ne_of_lt hlt) _
  refine wpAny_pyIter_list hl ⟨x1.trans (ext_push _), I1.hold0 (ext_push _), s1.heap.objs.size, [s1.heap.objs.size, a], [s1.heap.objs.size], _, _, rfl, Wk, ⟨⟨_, Heap.get?_push_size _ rfl, rfl, rfl⟩, hl.push _⟩, fun b hb => ?_, fun b hb => ?_, fun i s t v Q st q => ?_, fun i h st b hb => ?_, fun i v hi hP => ?_⟩
  · rcases List.mem_cons.mp hb with rfl | hb
    · exact ⟨alive_push, fun m => by obtain ⟨o, e⟩ := I1.low _ (I.mutU _ m); rw [hn] at e; cases e⟩
    · rcases List.mem_cons.mp hb with rfl | hb
      · obtain ⟨o, e, _, _, hd⟩ := hl; exact ⟨⟨o, Heap.get?_push_of_some _ e, (fun _ _ q => by rw [hd] at q; cases q), fun _ q => by rw [hd] at q; cases q⟩, fun m => nu (I.mutU _ m)⟩
      · cases hb
  · rcases List.mem_cons.mp hb with rfl | hb
    · exact fresh_of_ext x1 (fun a m => W.alive h1 a (W.mutF a m)) hn
    · cases hb
  · obtain ⟨⟨o, ho, hc, _⟩, _⟩ := st
    exact letgo_of ho hc (by decide) q
  · rcases List.mem_cons.mp hb with rfl | hb
    · obtain ⟨⟨o, ho, _⟩, _⟩ := st; exact ⟨o, ho⟩
    · cases hb
  · exact (reps_behind rr hn (ext_push (M := Nowhere) _)).getV i (by simpa using hP)

theorem EVit.tuple {e : Expr} {ds : List D} (h : EV prog w n W sc vars ρ st e (.tuple ds) st₁) : EVit prog w n W sc vars ρ st e ds st₁ := fun A env U s r f I => by
  refine wpAny_mono (h A env U s r f I) (fun v s1 q1 => ?_) fun _ _ x => x
  obtain ⟨x1, h1, r1⟩ := q1
  have I1 := I.step x1 h1
  obtain ⟨a, vs, rfl, nu, hl, rr⟩ := r1.of_tuple
  have hlt : a < s1.heap.objs.size := by obtain ⟨o, e, _⟩ := hl; exact Heap.lt_size e
  have hn := get_size_none s1.heap
  have Wk : Walks prog w A s1.heap.objs.size [s1.heap.objs.size, a] [s1.heap.objs.size] ds.length (fun i v => vs.toArray[i]? = some v) (fun i h => h.IsTupleIter s1.heap.objs.size a i ∧ h.IsTuple a vs.toArray) := by
    have e : ds.length = vs.toArray.size := by rw [List.size_toArray, rr.length]
    rw [e]
    exact Walks.tuple r.handled _ a (Nat.ne_of_lt hlt) _
  refine wpAny_pyIter_tuple hl ⟨x1.trans (ext_push _), I1.hold0 (ext_push _), s1.heap.objs.size, [s1.heap.objs.size, a], [s1.heap.objs.size], _, _, rfl, Wk, ⟨⟨_, Heap.get?_push_size _ rfl, rfl, rfl⟩, hl.push _⟩, fun b hb => ?_, fun b hb => ?_, fun i s t v Q st q => ?_, fun i h st b hb => ?_, fun i v hi hP => ?_⟩
  · rcases List.mem_cons.mp hb with rfl | hb
    · exact ⟨alive_push, fun m => by obtain ⟨o, e⟩ := I1.low _ (I.mutU _ m); rw [hn] at e; cases e⟩
    · rcases List.mem_cons.mp hb with rfl | hb
      · obtain ⟨o, e, _, _, hd⟩ := hl; exact ⟨⟨o, Heap.get?_push_of_some _ e, (fun _ _ q => by rw [hd] at q; cases q), fun _ q => by rw [hd] at q; cases q⟩, fun m => nu (I.mutU _ m)⟩
      · cases hb
  · rcases List.mem_cons.mp hb with rfl | hb
    · exact fresh_of_ext x1 (fun a m => W.alive h1 a (W.mutF a m)) hn
    · cases hb
  · obtain ⟨⟨o, ho, hc, _⟩, _⟩ := st
    exact letgo_of ho hc (by decide) q
  · rcases List.mem_cons.mp hb with rfl | hb
    · obtain ⟨⟨o, ho, _⟩, _⟩ := st; exact ⟨o, ho⟩
    · cases hb
  · exact (reps_behind rr hn (ext_push (M := Nowhere) _)).getV i (by simpa using hP)

theorem EVit.str {e : Expr} {p : List Nat} (h : EV prog w n W sc vars ρ st e (.str (S p)) st₁) : EVit prog w n W sc vars ρ st e (p.map fun c => .str (S [c])) st₁ := fun A env U s r f I => by
  refine wpAny_mono (h A env U s r f I) (fun v s1 q1 => ?_) fun _ _ x => x
  obtain ⟨x1, h1, r1⟩ := q1
  have I1 := I.step x1 h1
  obtain ⟨t, rfl⟩ := r1.of_str
  have hn := get_size_none s1.heap
  have fin : ∀ (T : String), (["enumerate", "zip", "dict_itemiterator", "dict_reverseitemiterator", "odict_iterator", "itertools.zip_longest", "itertools.pairwise"].contains T) = false → ∀ (o : Obj), o.isFreed = false → (∀ es k, o.data ≠ .dict es k) → (∀ v, o.data ≠ .cell v) →
      Walks prog w A s1.heap.objs.size [s1.heap.objs.size] [s1.heap.objs.size] (S p).cps.size (SignAt (S p)) (fun i h => h.IsStrIter s1.heap.objs.size T (S p) t i) → (s1.heap.push o).IsStrIter s1.heap.objs.size T (S p) t 0 →
      Ext W.Mut s { s1 with heap := s1.heap.push o } ∧ W.holds st₁ { s1 with heap := s1.heap.push o } ∧ It prog w A W U s { s1 with heap := s1.heap.push o } (.ref s1.heap.objs.size) (p.map fun c => .str (S [c])) := fun T hT o hf hd1 hd2 Wk st0 => by
    refine ⟨x1.trans (ext_push _), I1.hold0 (ext_push _), s1.heap.objs.size, [s1.heap.objs.size], [s1.heap.objs.size], _, _, rfl, by
      have e : (S p).cps.size = (p.map fun c => D.str (S [c])).length := by simp [S]
      rw [← e]; exact Wk, st0, fun b hb => ?_, fun b hb => ?_, fun i s t v Q st q => ?_, fun i h st b hb => ?_, fun i v hi hP => ?_⟩
    · rcases List.mem_cons.mp hb with rfl | hb
      · exact ⟨⟨o, Heap.get?_push_size _ hf, hd1, hd2⟩, fun m => by obtain ⟨o, e⟩ := I1.low _ (I.mutU _ m); rw [hn] at e; cases e⟩
      · cases hb
    · rcases List.mem_cons.mp hb with rfl | hb
      · exact fresh_of_ext x1 (fun a m => W.alive h1 a (W.mutF a m)) hn
      · cases hb
    · obtain ⟨o, ho, hc, _⟩ := st
      exact letgo_of ho hc hT q
    · rcases List.mem_cons.mp hb with rfl | hb
      · obtain ⟨o, ho, _⟩ := st; exact ⟨o, ho⟩
      · cases hb
    · obtain ⟨c, u, hc, rfl⟩ := hP
      have hc' : p[i]? = some c := by simpa [S] using hc
      exact ⟨.str (S [c]), by rw [List.getElem?_map, hc']; rfl, .str _ _⟩
  cases ha : (S p).cps.all (· < 128)
  · exact wpAny_pyIter_wide ha (fin "str_iterator" (by decide) _ rfl (by intro _ _ e; cases e) (by intro _ e; cases e) (Walks.strWide r.handled _ _ t) ⟨_, Heap.get?_push_size _ rfl, rfl, rfl⟩)
  · exact wpAny_pyIter_ascii ha (fin "str_ascii_iterator" (by decide) _ rfl (by intro _ _ e; cases e) (by intro _ e; cases e) (Walks.strAscii r.handled _ _ t) ⟨_, Heap.get?_push_size _ rfl, rfl, rfl⟩)
end
end
section
section
variable {hS : Heap} {prog : Program} {w : World} {n : Nat}
variable {W : Wd hS} {sc : Scope} {vars : List Str} {ρ : List (Option D)} {st st₁ st₂ st₃ : W.σ}

/-- the zs from a on, k of them -/
noncomputable def zs (a : Int) (k : Nat) : List Int := (List.range k).map fun (i : Nat) => a + (i : Int)

theorem small_of {a b : Int} (h : -1000000 < a ∧ a < 1000000 ∧ -1000000 < b ∧ b < 1000000) : Builtin.Range.small a b 1 = true := by
  have fits : ∀ x : Int, -2000000 < x → x < 2000000 → Builtin.Range.rangeFitsLong x = true := fun x h1 h2 => by
    unfold Builtin.Range.rangeFitsLong
    simp only [Bool.and_eq_true, decide_eq_true_eq]
    omega
  have hr := rangeSize_one a b
  unfold Builtin.Range.small
  simp only [Bool.and_eq_true]
  have hsz : Builtin.Range.rangeSize a b 1 = if a < b then b - a else 0 := hr
  refine ⟨⟨⟨⟨fits _ (by omega) (by omega), fits _ (by omega) (by omega)⟩, fits _ (by omega) (by omega)⟩, ?_⟩, ?_⟩
  · rw [hsz]; split <;> exact fits _ (by omega) (by omega)
  · rw [Bool.or_eq_true]; right
    rw [if_pos (by decide)]
    exact fits _ (by omega) (by omega)

theorem It.ofRange {A : Around} (r : Room A n) {U : Addr → Prop} {env : Env} {s s1 : Shared} {rg : Addr} {a b : Int} {t u v : Tok} {k : Nat} (I1 : Stand W U env vars ρ st s1) (x1 : Ext W.Mut s s1) (hr : IsRange s1.heap rg a b 1 t u v)
    (hb : -1000000 < a ∧ a < 1000000 ∧ -1000000 < b ∧ b < 1000000) (hk : (b - a).toNat = k) :
    wpAny (model prog w) A (pyIter (.ref rg)) (fun it s₂ => Ext W.Mut s s₂ ∧ W.holds st s₂ ∧ It prog w A W U s s₂ it ((zs a k).map .int)) (fun _ _ => False) s1 := by
  have hn := get_size_none s1.heap
  have hsz : Builtin.Range.rangeSize a b 1 = (k : Int) := by
    rw [rangeSize_one]; split <;> omega
  have Wk : Walks prog w A s1.heap.objs.size [s1.heap.objs.size] [s1.heap.objs.size] ((zs a k).map D.int).length (fun i v => ∃ t, v = .int (a + i * 1) t) (fun i h => IsRangeIter h s1.heap.objs.size (a + (i : Nat) * 1) ((k : Int) - (i : Nat)) 1) := by
    have e : ((zs a k).map D.int).length = k := by simp [zs]
    rw [e]
    exact Walks.range r.handled _ a 1 k
  refine wpAny_pyIter_range hr (small_of hb) ⟨x1.trans (ext_push _), I1.hold0 (ext_push _), s1.heap.objs.size, [s1.heap.objs.size], [s1.heap.objs.size], _, _, rfl, Wk, ?_, fun b hb => ?_, fun b hb => ?_, fun i s t v Q st q => ?_, fun i h st b hb => ?_, fun i v hi hP => ?_⟩
  · rw [hsz]
    show IsRangeIter _ _ (a + ((0 : Nat) : Int) * 1) ((k : Int) - ((0 : Nat) : Int)) 1
    rw [show a + ((0 : Nat) : Int) * 1 = a by omega, show (k : Int) - ((0 : Nat) : Int) = k by omega]
    exact Heap.get?_push_size _ rfl
  · rcases List.mem_cons.mp hb with rfl | hb
    · exact ⟨alive_push, fun m => by obtain ⟨o, e⟩ := I1.low _ (I1.mutU _ m); rw [hn] at e; cases e⟩
    · cases hb
  · rcases List.mem_cons.mp hb with rfl | hb
    · exact fresh_of_ext x1 (fun a m => W.alive I1.hold a (W.mutF a m)) hn
    · cases hb
  · exact letgo_of st rfl (by decide) q
  · rcases List.mem_cons.mp hb with rfl | hb
    · exact ⟨_, st⟩
    · cases hb
  · obtain ⟨t, rfl⟩ := hP
    refine ⟨.int (a + i), ?_, by rw [Int.mul_one]; exact .int _ _⟩
    have hi' : i < k := by simpa [zs] using hi
    simp [zs, hi']

theorem EVit.range1 {x : Str} {p pos : Pos} {e : Expr} {b : Int} {k : Nat} (hf : EV prog w n W sc vars ρ st (.Name x p) (.raw (.type "range")) st₁) (h : EV prog w n W sc vars ρ st₁ e (.int b) st₂)
    (hb : -1000000 < b ∧ b < 1000000) (hk : b.toNat = k) (he : ∀ env, starEach [e] env = (false, eval e env) :: starEach [] env := by intro _; rfl) :
    EVit prog w n W sc vars ρ st (.Call (.Name x p) [e] [] pos) ((zs 0 k).map .int) st₂ := fun A env U s r f I => by
  refine Call_ (wpAny_mono (hf A env U s r f I) (fun v s1 q1 => ?_) fun _ _ x => x)
  have e := q1.2.2.of_raw
  subst e
  refine callWith_of (.type "range") (.cons h .nil he) r f (I.step q1.1 q1.2.1) fun vs s2 x2 I2 r2 => ?_
  obtain ⟨v, rfl, rv⟩ := r2.one
  obtain ⟨t, rfl⟩ := rv.of_int
  have y : Ext Nowhere s2 { s2 with heap := s2.heap.push { cls := .type "range", data := .fields #[.int 0 s2.toks, .int b t, .int 1 (s2.toks + 1)] }, toks := s2.toks + 1 + 1 } := .heap fun _ _ e => Heap.get?_push_of_some _ e
  exact call_range_1 (It.ofRange r (I2.step0 y) ((q1.1.trans x2).trans y.any) (IsRange.new ..) (by omega) (by omega))

theorem EVit.range2 {x : Str} {p pos : Pos} {e1 e2 : Expr} {a b : Int} {k : Nat} (hf : EV prog w n W sc vars ρ st (.Name x p) (.raw (.type "range")) st₁) (h1 : EV prog w n W sc vars ρ st₁ e1 (.int a) st₂) (h2 : EV prog w n W sc vars ρ st₂ e2 (.int b) st₃)
    (hb : -1000000 < a ∧ a < 1000000 ∧ -1000000 < b ∧ b < 1000000) (hk : (b - a).toNat = k) (he1 : ∀ env, starEach [e1, e2] env = (false, eval e1 env) :: starEach [e2] env := by intro _; rfl)
    (he : ∀ env, starEach [e2] env = (false, eval e2 env) :: starEach [] env := by intro _; rfl) :
    EVit prog w n W sc vars ρ st (.Call (.Name x p) [e1, e2] [] pos) ((zs a k).map .int) st₃ := fun A env U s r f I => by
  refine Call_ (wpAny_mono (hf A env U s r f I) (fun v s1 q1 => ?_) fun _ _ x => x)
  have e := q1.2.2.of_raw
  subst e
  refine callWith_of (.type "range") (.cons h1 (.cons h2 .nil he) he1) r f (I.step q1.1 q1.2.1) fun vs s2 x2 I2 r2 => ?_
  obtain ⟨v, v', rfl, rv, rv'⟩ := r2.two
  obtain ⟨t, rfl⟩ := rv.of_int
  obtain ⟨t', rfl⟩ := rv'.of_int
  have y : Ext Nowhere s2 { s2 with heap := s2.heap.push { cls := .type "range", data := .fields #[.int a t, .int b t', .int 1 s2.toks] }, toks := s2.toks + 1 } := .heap fun _ _ e => Heap.get?_push_of_some _ e
  exact call_range_2 (It.ofRange r (I2.step0 y) ((q1.1.trans x2).trans y.any) (IsRange.new ..) hb hk)

/-! a target -/
noncomputable def AS (prog : Program) (w : World) (W : Wd hS) (sc : Scope) (vars : List Str) (xs : List Str) (t : Expr) (d : D) (ρ ρ' : List (Option D)) : Prop :=
  ∀ {A : Around} {env : Env} {U : Addr → Prop} {s : Shared} {v : Value} {st : W.σ}, A.handled = none → Fits sc env → Stand W U env vars ρ st s → (∀ x ∈ xs, Stored env x) → Rep U s.heap v d →
    wpAny (model prog w) A (assign t env v) (fun _ s' => Ext (Own env xs) s s' ∧ Stand W U env vars ρ' st s') (fun _ _ => False) s

theorem AS.name (i : Nat) {x : Str} {p : Pos} {d : D} (nd : vars.Nodup) (hx : vars[i]? = some x) : AS prog w W sc vars [x] (.Name x p) d ρ (ρ.set i (some d)) := fun _ f I hs r =>
  wpAny_assign_Name (I.store f nd hx (hs x (by simp)) r)

noncomputable def sets : List Nat → List D → List (Option D) → List (Option D)
  | i :: is, d :: ds, ρ => sets is ds (ρ.set i (some d))
  | _, _, ρ => ρ

theorem assignEach_cons (x : Str) (p : Pos) (r : List Expr) (env : Env) : assignEach (.Name x p :: r) env = (false, assign (.Name x p) env) :: assignEach r env := rfl

noncomputable def nameList (xs : List Str) (ps : List Pos) : List Expr := (xs.zip ps).map fun q => Expr.Name q.1 q.2

theorem assign_names (nd : vars.Nodup) (all : List Str) {A : Around} {env : Env} {U : Addr → Prop} {st : W.σ} (f : Fits sc env) (xs : List Str) : ∀ (is : List Nat) (ps : List Pos) (vs : List Value) (ds : List D) (s : Shared) (ρ : List (Option D)),
    is.map (vars[·]?) = xs.map some → xs.length = ps.length → xs.length = vs.length → Stand W U env vars ρ st s → (∀ x ∈ xs, Stored env x) → (∀ x ∈ xs, x ∈ all) → Reps U s.heap vs ds →
    wpAny (model prog w) A (assignInOrder ((assignEach (nameList xs ps) env).map (·.2)) vs) (fun _ s' => Ext (Own env all) s s' ∧ Stand W U env vars (sets is ds ρ) st s') (fun _ _ => False) s := by
  induction xs with
  | nil =>
    intro is ps vs ds s ρ h1 h2 h3 I hs ha r
    have e1 : is = [] := by simpa using h1
    subst e1
    cases vs with
    | nil => cases r; exact wpAny_pure ⟨.refl _ _, I⟩
    | cons => simp at h3
  | cons x xs ih =>
    intro is ps vs ds s ρ h1 h2 h3 I hs ha r
    cases is with
    | nil => simp at h1
    | cons i is =>
    cases ps with
    | nil => simp at h2
    | cons p ps =>
    cases r with
    | nil => simp at h3
    | cons r1 r2 =>
      rename_i v d vs ds
      simp only [List.map_cons, List.cons.injEq] at h1
      have e : nameList (x :: xs) (p :: ps) = .Name x p :: nameList xs ps := rfl
      rw [e, assignEach_cons]
      refine wpAny_bind (wpAny_holding (wpAny_assign_Name (wpAny_mono (I.store f nd h1.1 (hs x (by simp)) r1) (fun _ s' q => ?_) fun _ _ x => x)))
      have keepR : Reps U s'.heap vs ds := by
        refine r2.move fun a o nu ⟨ys, m, hd⟩ e => ⟨q.1.keep a o (fun own => ?_) e, nu⟩
        rcases own with rfl | ⟨y, _, hc⟩
        · obtain ⟨m₀, hm⟩ := I.ns; exact ns_not_seq hm e hd
        · obtain ⟨u, hu⟩ := I.cellv y a hc; exact cell_not_seq hu e hd
      refine wpAny_mono (ih is ps vs ds s' _ h1.2 (by simpa using h2) (by simpa using h3) q.2 (fun y hy => hs y (List.mem_cons_of_mem _ hy)) (fun y hy => ha y (List.mem_cons_of_mem _ hy)) keepR) (fun _ s'' q' => ?_) fun _ _ x => x
      exact ⟨(q.1.mono (Own.mono (by intro y hy; simp at hy; subst hy; exact ha _ (by simp)))).trans q'.1, q'.2⟩

theorem assignEach_names (env : Env) (xs : List Str) : ∀ (ps : List Pos), xs.length = ps.length → (assignEach (nameList xs ps) env).length = xs.length ∧ (assignEach (nameList xs ps) env).findIdx? (·.1) = none := by
  induction xs with
  | nil => intro ps _; exact ⟨rfl, rfl⟩
  | cons x xs ih =>
    intro ps h
    cases ps with
    | nil => simp at h
    | cons p ps =>
      have ih := ih ps (by simpa using h)
      have e : nameList (x :: xs) (p :: ps) = .Name x p :: nameList xs ps := rfl
      rw [e, assignEach_cons]
      refine ⟨by simp [ih.1], ?_⟩
      rw [List.findIdx?_cons]
      simp [ih.2]

theorem AS.tuple (is : List Nat) (xs : List Str) (ps : List Pos) {k : Nat} {pos : Pos} {ds : List D} (nd : vars.Nodup) (hx : is.map (vars[·]?) = xs.map some) (hl : xs.length = ps.length) (hd : xs.length = ds.length) :
    AS prog w W sc vars xs (.Tuple (nameList xs ps) k pos) (.tuple ds) ρ (sets is ds ρ) := fun {A} {env} {U} {s} {v} {st} hh f I hs r => by
  obtain ⟨a, vs, rfl, nu, ht, rr⟩ := r.of_tuple
  have hn := assignEach_names env xs ps hl
  refine wpAny_assign_Tuple hh ht (by rw [hn.1, List.size_toArray, rr.length, hd]) hn.2 fun h' hk => ?_
  have y : Ext Nowhere s { s with heap := h' } := .heap (tk := s.toks) fun b o e => hk b o (Nat.ne_of_lt (Heap.lt_size e)) e
  refine wpAny_mono (assign_names nd xs f xs is ps vs ds _ _ hx hl (by rw [hd, rr.length]) (I.step0 y) hs (fun _ h => h) (rr.ext0 y)) (fun _ s' q => ?_) fun _ _ x => x
  exact ⟨y.any.trans q.1, q.2⟩

theorem draw_list {it l : Addr} {items : Array Value} (hne : l ≠ it) : ∀ (n i : Nat) (s : Shared) {A : Around} {E : Value → Shared → Prop} (Q : List Value → Shared → Prop), s.heap.IsListIter it l i → s.heap.IsList l items → i + n ≤ items.size →
    (∀ h', h'.IsListIter it l (i + n) → Heap.SameBut it s.heap h' → Q ((items.toList.drop i).take n) { s with heap := h' }) → wpAny (model prog w) A (draw (.ref it) n) Q E s
  | 0, i, s, A, E, Q, hit, _, _, hQ => by
    show wpAny _ _ (pure []) Q E s
    exact wpAny_pure (by simpa using hQ s.heap hit (Heap.SameBut.refl ..))
  | n + 1, i, s, A, E, Q, hit, ht, hle, hQ => by
    have hlt : i < items.size := by omega
    show wpAny _ _ (pyNext (.ref it) >>= _) Q E s
    refine wpAny_bind (wpAny_pyNext_list_item hit ht (x := items[i]) (by simp [hlt]) fun h₁ hit₁ hs₁ => ?_)
    refine wpAny_bind (wpAny_holding (draw_list hne n (i + 1) _ _ hit₁ (ht.extBut hs₁.extBut hne) (by omega) fun h₂ hit₂ hs₂ => wpAny_pure ?_))
    have hd : items.toList.drop i = items[i] :: items.toList.drop (i + 1) := by simp [List.drop_eq_getElem_cons, hlt]
    have := hQ h₂ (by rw [show i + (n + 1) = i + 1 + n by omega]; exact hit₂) (hs₁.trans hs₂)
    rw [hd, List.take_succ_cons] at this
    exact this

theorem AS.list (is : List Nat) (xs : List Str) (ps : List Pos) {k : Nat} {pos : Pos} {ds : List D} (nd : vars.Nodup) (hx : is.map (vars[·]?) = xs.map some) (hl : xs.length = ps.length) (hd : xs.length = ds.length) :
    AS prog w W sc vars xs (.Tuple (nameList xs ps) k pos) (.list ds) ρ (sets is ds ρ) := fun {A} {env} {U} {s} {v} {st} hh f I hs r => by
  obtain ⟨a, vs, rfl, nu, hp, rr⟩ := r.of_list
  have ht := hp.isList
  have hn := assignEach_names env xs ps hl
  have hlt : a ≠ s.heap.objs.size := by obtain ⟨o, ho, _⟩ := ht; exact Nat.ne_of_lt (Heap.lt_size ho)
  have hsz : (assignEach (nameList xs ps) env).length = vs.toArray.size := by rw [hn.1, List.size_toArray, rr.length, hd]
  rw [assign_Tuple]
  refine wpAny_bind (wpAny_standAt ?_)
  unfold unpack
  rw [hsz, hn.2]
  refine wpAny_bind (wpAny_holding ?_)
  unfold unpackItems
  refine wpAny_bind ?_
  unfold notIterableAtAll
  refine wpAny_bind (wpAny_specialOf ht.typeIs slot_list_iter.lookup ?_)
  refine wpAny_pure ?_
  simp only [Bool.false_eq_true, if_false]
  refine wpAny_bind (wpAny_holding (wpAny_pyIter_list ht ?_))
  refine wpAny_bind (wpAny_holding (draw_list hlt vs.toArray.size 0 _ _ ⟨_, Heap.get?_push_size _ rfl, rfl, rfl⟩ (ht.push _) (by omega) fun h₁ hit₁ hs₁ => ?_))
  have hall : List.take vs.toArray.size (List.drop 0 vs.toArray.toList) = vs := by
    rw [List.drop_zero]; exact List.take_of_length_le (by simp)
  rw [hall]
  rw [if_neg (by simp)]
  have ht₁ : h₁.IsList a vs.toArray := (ht.push _).extBut hs₁.extBut hlt
  refine wpAny_bind (wpAny_holding (wpAny_pyNext_list_end hh hit₁ ht₁ (by simp) fun h₂ he₂ => ?_))
  simp only [Option.isSome_none, Bool.false_eq_true, if_false]
  refine wpAny_pure ?_
  have hk : ∀ b o, s.heap.get? b = some o → h₂.get? b = some o := fun b o e => he₂ b o (Nat.ne_of_lt (Heap.lt_size e)) (hs₁.extBut b o (Nat.ne_of_lt (Heap.lt_size e)) (Heap.get?_push_of_some _ e))
  have y : Ext Nowhere s { s with heap := h₂ } := .heap (tk := s.toks) hk
  refine wpAny_mono (assign_names nd xs f xs is ps vs ds _ _ hx hl (by rw [hd, rr.length]) (I.step0 y) hs (fun _ h => h) (rr.ext0 y)) (fun _ s' q => ?_) fun _ _ x => x
  exact ⟨y.any.trans q.1, q.2⟩
end
end
section
section
variable {hS : Heap} {prog : Program} {w : World} {n : Nat}
variable {W : Wd hS} {sc : Scope} {vars : List Str} {ρ : List (Option D)} {st st₁ st₂ st₃ : W.σ}

/-! tests -/
noncomputable def Truth (d : D) (b : Bool) : Prop := ∀ {prog : Program} {w : World} {A : Around} {U : Addr → Prop} {s : Shared} {v : Value} {Q : Bool → Shared → Prop} {E : Value → Shared → Prop}, Rep U s.heap v d → Q b s → wpAny (model prog w) A (truthy v) Q E s
theorem truth_bool (b : Bool) : Truth (.bool b) b := fun r h => by rw [r.of_bool]; exact wpAny_truthy_bool h

noncomputable def ET (prog : Program) (w : World) (n : Nat) (W : Wd hS) (sc : Scope) (vars : List Str) (ρ : List (Option D)) (st : W.σ) (e : Expr) (b : Bool) (st' : W.σ) : Prop :=
  ∀ (A : Around) (env : Env) (U : Addr → Prop) (s : Shared), Room A n → Fits sc env → Stand W U env vars ρ st s →
    wpAny (model prog w) A (isTrue e env (eval e env)) (fun c s' => Ext W.Mut s s' ∧ W.holds st' s' ∧ c = b) (fun _ _ => False) s

theorem ET.cmp {l r : Expr} {op : CmpOp} {pos : Pos} {d1 d2 : D} {b : Bool} (h1 : EV prog w n W sc vars ρ st l d1 st₁) (h2 : EV prog w n W sc vars ρ st₁ r d2 st₂)
    (ho : Op hS prog w n (Cmp op) [d1, d2] (.bool b)) (hm : behindInMarks op r = false := by with_unfolding_all rfl) : ET prog w n W sc vars ρ st (.Compare l [op] [r] pos) b st₂ := fun A env U s rm f I => by
  refine wpAny_isTrue_Compare1 (wpAny_mono (h1 A env U s rm f I) (fun v1 s1 q1 => ?_) fun _ _ x => x) hm
  have I1 := I.step q1.1 q1.2.1
  refine wpAny_mono (h2 A env U s1 rm f I1) (fun v2 s2 q2 => ?_) fun _ _ x => x
  have I2 := I1.step q2.1 q2.2.1
  refine wpAny_mono (ho A U s2 [v1, v2] rm I2.static I2.low (.cons (q1.2.2.ext q2.1 I.mutU) (.cons q2.2.2 .nil))) (fun v s' q => ?_) fun _ _ x => x
  rw [q.2.of_bool]
  exact wpAny_truthy_bool ⟨(q1.1.trans q2.1).trans q.1.any, I2.hold0 q.1, rfl⟩
theorem ET.of {e : Expr} {d : D} {b : Bool} (h : EV prog w n W sc vars ρ st e d st₁) (t : Truth d b)
    (he : ∀ env whole, isTrue e env whole = (do let v ← whole; standAt e.pos; holding [v] (truthy v)) := by intro _ _; rfl) : ET prog w n W sc vars ρ st e b st₁ := fun A env U s rm f I => by
  rw [he]
  exact wpAny_bind (wpAny_mono (h A env U s rm f I) (fun v s1 q => wpAny_bind (wpAny_standAt (wpAny_holding (t q.2.2 ⟨q.1, q.2.1, rfl⟩)))) fun _ _ x => x)

theorem isTrue_And (a b : Expr) (pos : Pos) (env : Env) (whole : Sem Value) : isTrue (.BoolOp .And [a, b] pos) env whole =
    (do match BoolOp.And, ← isTrue a env (eval a env) with
        | .And, false => pure false
        | .Or, true => pure true
        | _, _ => do match BoolOp.And, ← isTrue b env (eval b env) with
          | .And, false => pure false
          | .Or, true => pure true
          | _, _ => pure true) := rfl
theorem isTrue_Or (a b : Expr) (pos : Pos) (env : Env) (whole : Sem Value) : isTrue (.BoolOp .Or [a, b] pos) env whole =
    (do match BoolOp.Or, ← isTrue a env (eval a env) with
        | .And, false => pure false
        | .Or, true => pure true
        | _, _ => do match BoolOp.Or, ← isTrue b env (eval b env) with
          | .And, false => pure false
          | .Or, true => pure true
          | _, _ => pure false) := rfl

theorem ET.and {a b : Expr} {x y : Bool} {pos : Pos} (h1 : ET prog w n W sc vars ρ st a x st₁) (h2 : x = true → ET prog w n W sc vars ρ st₁ b y st₂) (h3 : x = false → st₂ = st₁) :
    ET prog w n W sc vars ρ st (.BoolOp .And [a, b] pos) (x && y) st₂ := fun A env U s rm f I => by
  rw [isTrue_And]
  refine wpAny_bind (wpAny_mono (h1 A env U s rm f I) (fun c s1 q => ?_) fun _ _ x => x)
  obtain ⟨x1, q1, rfl⟩ := q
  cases c with
  | false => rw [h3 rfl]; exact wpAny_pure ⟨x1, q1, rfl⟩
  | true =>
    refine wpAny_bind (wpAny_mono (h2 rfl A env U s1 rm f (I.step x1 q1)) (fun c s2 q => ?_) fun _ _ x => x)
    obtain ⟨x2, q2, rfl⟩ := q
    cases c <;> exact wpAny_pure ⟨x1.trans x2, q2, rfl⟩
theorem ET.or {a b : Expr} {x y : Bool} {pos : Pos} (h1 : ET prog w n W sc vars ρ st a x st₁) (h2 : x = false → ET prog w n W sc vars ρ st₁ b y st₂) (h3 : x = true → st₂ = st₁) :
    ET prog w n W sc vars ρ st (.BoolOp .Or [a, b] pos) (x || y) st₂ := fun A env U s rm f I => by
  rw [isTrue_Or]
  refine wpAny_bind (wpAny_mono (h1 A env U s rm f I) (fun c s1 q => ?_) fun _ _ x => x)
  obtain ⟨x1, q1, rfl⟩ := q
  cases c with
  | true => rw [h3 rfl]; exact wpAny_pure ⟨x1, q1, rfl⟩
  | false =>
    refine wpAny_bind (wpAny_mono (h2 rfl A env U s1 rm f (I.step x1 q1)) (fun c s2 q => ?_) fun _ _ x => x)
    obtain ⟨x2, q2, rfl⟩ := q
    cases c <;> exact wpAny_pure ⟨x1.trans x2, q2, rfl⟩

theorem EV.ifexp {t a b : Expr} {c : Bool} {d1 d2 : D} {pos : Pos} (h : ET prog w n W sc vars ρ st t c st₁) (h1 : c = true → EV prog w n W sc vars ρ st₁ a d1 st₂) (h2 : c = false → EV prog w n W sc vars ρ st₁ b d2 st₂) :
    EV prog w n W sc vars ρ st (.IfExp t a b pos) (cond c d1 d2) st₂ := fun A env U s rm f I => by
  refine IfExp_ (wpAny_mono (h A env U s rm f I) (fun c' s1 q => ?_) fun _ _ x => x)
  obtain ⟨x1, q1, rfl⟩ := q
  cases c' with
  | true => exact wpAny_mono (h1 rfl A env U s1 rm f (I.step x1 q1)) (fun v s2 q => ⟨x1.trans q.1, q.2.1, q.2.2⟩) fun _ _ x => x
  | false => exact wpAny_mono (h2 rfl A env U s1 rm f (I.step x1 q1)) (fun v s2 q => ⟨x1.trans q.1, q.2.1, q.2.2⟩) fun _ _ x => x

theorem EV.eq {e : Expr} {d d' : D} (h : EV prog w n W sc vars ρ st e d st₁) (q : d = d') : EV prog w n W sc vars ρ st e d' st₁ := q ▸ h
theorem ET.eq {e : Expr} {d d' : Bool} (h : ET prog w n W sc vars ρ st e d st₁) (q : d = d') : ET prog w n W sc vars ρ st e d' st₁ := q ▸ h

/-! the frame of a comprehension -/
noncomputable def clo (env : Env) : List (Str × NameKind) → List (Str × Addr) → List (Str × Addr)
  | [], acc => acc
  | (x, k) :: r, acc => if k == .free then clo env r ((x, (env.cells.lookup x).getD 0) :: acc) else clo env r acc

theorem closureFor_is {scope : Scope} {env : Env} (h : ∀ x, (x, NameKind.free) ∈ scope.names → (env.cells.lookup x).isSome = true) : closureFor scope env = pure (clo env scope.names []) := by
  have key : ∀ (names : List (Str × NameKind)) (acc : List (Str × Addr)), (∀ x, (x, NameKind.free) ∈ names → (env.cells.lookup x).isSome = true) →
      (forIn names acc (fun x cs => match x with
        | (name, kind) => if (kind == .free) = true then do let a ← cellOf env name; pure (ForInStep.yield ((name, a) :: cs)) else pure (ForInStep.yield cs)) : Sem (List (Str × Addr))) = pure (clo env names acc) := by
    intro names
    induction names with
    | nil => intro acc _; rfl
    | cons y r ih =>
      intro acc hy
      obtain ⟨x, k⟩ := y
      rw [List.forIn_cons]
      have hr : ∀ x, (x, NameKind.free) ∈ r → (env.cells.lookup x).isSome = true := fun x hx => hy x (List.mem_cons_of_mem _ hx)
      cases hk : (k == NameKind.free) with
      | false =>
        simp only [Bool.false_eq_true, if_false, pure_bind, clo, hk]
        exact ih _ hr
      | true =>
        have hk' : k = .free := by simpa using hk
        subst hk'
        obtain ⟨c, hc⟩ := Option.isSome_iff_exists.mp (hy x (by simp))
        simp only [if_true, cellOf, hc, pure_bind, clo, hk, Option.getD_some]
        exact ih _ hr
  have e : closureFor scope env = ((forIn scope.names [] (fun x cs => match x with
        | (name, kind) => if (kind == .free) = true then do let a ← cellOf env name; pure (ForInStep.yield ((name, a) :: cs)) else pure (ForInStep.yield cs)) : Sem (List (Str × Addr))) >>= fun cs => pure cs) := by
    unfold closureFor
    rfl
  rw [e, bind_pure, key _ _ h]

theorem clo_lookup (env : Env) (y : Str) : ∀ (names : List (Str × NameKind)) (acc : List (Str × Addr)), (∀ x, (x, NameKind.free) ∈ names → (env.cells.lookup x).isSome = true) →
    (clo env names acc).lookup y = if (y, NameKind.free) ∈ names then env.cells.lookup y else acc.lookup y := by
  intro names
  induction names with
  | nil => intro acc _; simp [clo]
  | cons z r ih =>
    intro acc hy
    obtain ⟨x, k⟩ := z
    have hr : ∀ x, (x, NameKind.free) ∈ r → (env.cells.lookup x).isSome = true := fun x hx => hy x (List.mem_cons_of_mem _ hx)
    unfold clo
    by_cases hk : k = .free
    · subst hk
      rw [if_pos (by rfl), ih _ hr]
      by_cases hm : (y, NameKind.free) ∈ r
      · rw [if_pos hm, if_pos (List.mem_cons_of_mem _ hm)]
      · rw [if_neg hm]
        by_cases hx : y = x
        · subst hx
          rw [if_pos (by simp), List.lookup_cons, beq_self_eq_true]
          obtain ⟨c, hc⟩ := Option.isSome_iff_exists.mp (hy y (by simp))
          simp [hc]
        · rw [if_neg (by intro q; rcases List.mem_cons.mp q with q | q; exact hx (Prod.mk.inj q).1; exact hm q), List.lookup_cons, beq_eq_false_iff_ne.mpr hx]
    · rw [if_neg (by simpa using hk), ih _ hr]
      have : ((y, NameKind.free) ∈ (x, k) :: r) ↔ (y, NameKind.free) ∈ r := by
        constructor
        · intro q; rcases List.mem_cons.mp q with q | q
          · exact absurd (Prod.mk.inj q).2.symm hk
          · exact q
        · exact List.mem_cons_of_mem _
      simp only [this]

theorem cellsFrom_append : ∀ (names : List (Str × NameKind)) (n : Nat) (acc : List (Str × Addr)), cellsFrom n names acc = cellsFrom n names [] ++ acc := by
  intro names
  induction names with
  | nil => intro n acc; rfl
  | cons z r ih =>
    intro n acc
    obtain ⟨x, k⟩ := z
    unfold cellsFrom
    split
    · rw [ih (n + 1) ((x, n) :: acc), ih (n + 1) [(x, n)]]; simp
    · exact ih n acc
theorem mem_cellsFrom : ∀ (names : List (Str × NameKind)) (n : Nat) (y : Str) (c : Addr), (y, c) ∈ cellsFrom n names [] → (y, NameKind.cell) ∈ names ∧ n ≤ c := by
  intro names
  induction names with
  | nil => intro n y c h; simp [cellsFrom] at h
  | cons z r ih =>
    intro n y c h
    obtain ⟨x, k⟩ := z
    unfold cellsFrom at h
    split at h
    · rename_i hk
      rw [cellsFrom_append] at h
      rcases List.mem_append.mp h with h | h
      · obtain ⟨h1, h2⟩ := ih _ _ _ h; exact ⟨List.mem_cons_of_mem _ h1, by omega⟩
      · simp only [List.mem_singleton, Prod.mk.injEq] at h
        have : k = .cell := by simpa using hk
        subst this
        exact ⟨by rw [h.1]; simp, Nat.le_of_eq h.2.symm⟩
    · obtain ⟨h1, h2⟩ := ih _ _ _ h; exact ⟨List.mem_cons_of_mem _ h1, h2⟩
theorem cellsFrom_mem : ∀ (names : List (Str × NameKind)) (n : Nat) (y : Str), (y, NameKind.cell) ∈ names → ∃ c, (cellsFrom n names []).lookup y = some c := by
  intro names
  induction names with
  | nil => intro n y h; cases h
  | cons z r ih =>
    intro n y h
    obtain ⟨x, k⟩ := z
    unfold cellsFrom
    split
    · rename_i hk
      rw [cellsFrom_append, List.lookup_append]
      rcases List.mem_cons.mp h with h | h
      · obtain ⟨rfl, rfl⟩ := Prod.mk.inj h
        cases (cellsFrom (n + 1) r []).lookup y with
        | some c => exact ⟨c, rfl⟩
        | none => exact ⟨n, by simp [List.lookup_cons]⟩
      · obtain ⟨c, hc⟩ := ih (n + 1) y h
        exact ⟨c, by rw [hc]; rfl⟩
    · rename_i hk
      rcases List.mem_cons.mp h with h | h
      · obtain ⟨rfl, rfl⟩ := Prod.mk.inj h; exact absurd rfl hk
      · exact ih n y h
theorem lookup_none_of {α : Type} {l : List (Str × α)} {y : Str} (h : ∀ c, (y, c) ∉ l) : l.lookup y = none := by
  induction l with
  | nil => rfl
  | cons z r ih =>
    obtain ⟨x, c⟩ := z
    rw [List.lookup_cons]
    have : y ≠ x := fun q => h c (by rw [q]; simp)
    rw [beq_eq_false_iff_ne.mpr this]
    exact ih fun c hc => h c (List.mem_cons_of_mem _ hc)
end
end
section
section
variable {hS : Heap} {prog : Program} {w : World} {n : Nat}
variable {W : Wd hS} {sc : Scope} {vars : List Str} {ρ : List (Option D)} {st st₁ st₂ st₃ : W.σ}

theorem codeAny_compLoop_any {A : Around} {R : Result → Shared → Prop} {elt target iter : Expr} {ifs : List Expr} {scope : Scope} {pos : Pos} {it acc : Value} {env : Env} (I : Nat → Shared → Prop)
    (turn : ∀ n s, I n s → wpAny (model prog w) A (pyNext it) (fun r s₁ => match r with
      | none => R (.ok .next) s₁
      | some v => wpAny (model prog w) A (letOwnedTupleGo target it v) (fun _ s₁' => wpAny (model prog w) A (assign target env v) (fun _ s₂ =>
          wpAny (model prog w) A (forIn ifs true fun c r => if r = true then do let ok ← isTrue c env (eval c env); pure (ForInStep.yield ok) else pure (ForInStep.yield r)) (fun ok s₃ =>
            if ok = true then wpAny (model prog w) A (eval elt env) (fun x s₄ =>
              wpAny (model prog w) A (call (.builtin "list.append") [acc, x]) (fun _ s₅ => ∃ m, m < n ∧ I m s₅) (fun _ _ => False) s₄) (fun _ _ => False) s₃
            else ∃ m, m < n ∧ I m s₃) (fun _ _ => False) s₂) (fun _ _ => False) s₁') (fun _ _ => False) s₁) (fun _ _ => False) s)
    (n : Nat) {s : Shared} (h : I n s) :
    codeAny (model prog w) A (.compLoop (.ListComp elt [⟨target, iter, ifs, 0⟩] scope pos) 0 it acc env) R s := by
  refine codeAny_loop rfl I (fun n s hI => ?_) n h
  show wpAny _ A ((compTurn (.ListComp elt [⟨target, iter, ifs, 0⟩] scope pos) 0 it acc env).onRaise (fun x => do noteFrame x env; theTreesLotGoes x)) _ _ s
  refine wpAny_noted ?_
  rw [compTurn_list]
  refine wpAny_bind (wpAny_standAt (wpAny_bind (wpAny_mono (turn n s hI) (fun r s₁ h₁ => ?_) fun _ _ h' => h'.elim)))
  cases r with
  | none => exact wpAny_pure h₁
  | some v =>
    refine wpAny_bind (wpAny_mono h₁ (fun _ s₁' h₁' => ?_) fun _ _ h' => h'.elim)
    refine wpAny_bind (wpAny_mono h₁' (fun _ s₂ h₂ => wpAny_bind (wpAny_mono h₂ (fun ok s₃ h₃ => ?_) fun _ _ h' => h'.elim)) fun _ _ h' => h'.elim)
    cases ok with
    | false => exact wpAny_pure ⟨rfl, h₃⟩
    | true =>
      exact wpAny_bind (wpAny_bind (wpAny_mono h₃ (fun x s₄ h₄ => wpAny_bind (wpAny_mono h₄ (fun _ s₅ h₅ => wpAny_pure (wpAny_pure ⟨rfl, h₅⟩)) fun _ _ h' => h'.elim)) fun _ _ h' => h'.elim))

theorem newEnv_cells {M : Model} {A : Around} {E : Value → Shared → Prop} {s : Shared} {scope : Scope} {globals : Addr} {cl : List (Str × Addr)} {qual : Str} {outer : Env} {Q : Env → Shared → Prop}
    (hQ : Q { scope, locals := s.heap.objs.size, globals, cells := cellsFrom (s.heap.objs.size + 1) scope.names cl, qual, func := none, code := outer.code, frame := outer.frame, builtins := outer.builtins }
      { s with heap := pushCells (s.heap.push { cls := .type "dict", data := .dict #[] }) scope.names }) :
    wpAny M A (newFunctionEnv scope globals cl [] qual none .none (some outer)) Q E s := by
  simp only [newFunctionEnv, Option.isSome_some, if_true]
  refine wpAny_bind (wpAny_alloc ?_)
  refine wpAny_bind (wpAny_layCells _ (fun name kind cells => by cases hkc : kind == NameKind.cell <;> simp [hkc]) _ _ _ _ ?_)
  rw [show ({ s with heap := s.heap.push { cls := .type "dict", data := .dict #[] } } : Shared).heap.objs.size = s.heap.objs.size + 1 from Heap.size_push ..]
  refine wpAny_bind ?_
  rw [List.forIn_nil]
  exact wpAny_pure (wpAny_pure hQ)

noncomputable def relabelS (scope sc : Scope) : Scope :=
  { scope with names := scope.names.map fun (n, k) => if (k == .free && sc.kind == .function && sc.names.lookup n == some .cell) then (n, .cell) else (n, k) }
theorem relabel_eq {scope : Scope} {env : Env} (f : Fits sc env) : relabel scope env = relabelS scope sc := by
  unfold relabel relabelS Env.kindOf
  rw [f.scope]

noncomputable def freesOf (scope : Scope) : List Str := (scope.names.filter fun x => x.2 == .free).map (·.1)
theorem mem_frees {scope : Scope} {y : Str} : y ∈ freesOf scope ↔ (y, NameKind.free) ∈ scope.names := by
  unfold freesOf
  constructor
  · intro h
    obtain ⟨⟨a, k⟩, h1, rfl⟩ := List.mem_map.mp h
    obtain ⟨h2, h3⟩ := List.mem_filter.mp h1
    have : k = .free := by simpa using h3
    subst this; exact h2
  · intro h; exact List.mem_map.mpr ⟨_, List.mem_filter.mpr ⟨h, by rfl⟩, rfl⟩

theorem lookup_of_mem_nodup {α : Type} : ∀ {l : List (Str × α)} {y : Str} {k : α}, (l.map (·.1)).Nodup → (y, k) ∈ l → l.lookup y = some k
  | [], _, _, _, h => by cases h
  | (x, k') :: r, y, k, nd, h => by
    rw [List.map_cons, List.nodup_cons] at nd
    rcases List.mem_cons.mp h with h | h
    · obtain ⟨rfl, rfl⟩ := Prod.mk.inj h; simp [List.lookup_cons]
    · have hne : y ≠ x := fun q => nd.1 (List.mem_map.mpr ⟨(y, k), h, q⟩)
      rw [List.lookup_cons, beq_eq_false_iff_ne.mpr hne]
      exact lookup_of_mem_nodup nd.2 h

noncomputable def scopeOk (scope sc : Scope) (tn capn : List Str) : Bool :=
  decide (scope.names.map (·.1)).Nodup && tn.all (fun x => scope.names.lookup x == some .local || scope.names.lookup x == some .cell) && decide (freesOf scope = capn) &&
    capn.all (fun y => sc.names.lookup y == some .cell && y != ("__classdict__" : Str)) && scope.kind == .function

structure ScopeOk (scope sc : Scope) (tn capn : List Str) : Prop where
  nd : (scope.names.map (·.1)).Nodup
  tn : ∀ x ∈ tn, (x, NameKind.local) ∈ scope.names ∨ (x, NameKind.cell) ∈ scope.names
  free : ∀ y, (y, NameKind.free) ∈ scope.names ↔ y ∈ capn
  cap : ∀ y ∈ capn, sc.names.lookup y = some .cell
  kind : scope.kind = .function
theorem scopeOk_spec {scope sc : Scope} {tn capn : List Str} (h : scopeOk scope sc tn capn = true) : ScopeOk scope sc tn capn := by
  unfold scopeOk at h
  simp only [Bool.and_eq_true, decide_eq_true_eq, List.all_eq_true, Bool.or_eq_true, beq_iff_eq] at h
  obtain ⟨⟨⟨⟨h1, h2⟩, h3⟩, h4⟩, h5⟩ := h
  refine ⟨h1, fun x hx => (h2 x hx).imp mem_of_lookup mem_of_lookup, fun y => by rw [← h3]; exact mem_frees.symm, fun y hy => (h4 y hy).1, h5⟩

theorem lookup_relabel {sc : Scope} {y : Str} {k : NameKind} : ∀ {names : List (Str × NameKind)}, names.lookup y = some k →
    (names.map fun (n, k) => if (k == NameKind.free && sc.kind == .function && sc.names.lookup n == some .cell) then (n, NameKind.cell) else (n, k)).lookup y =
      some (if (k == NameKind.free && sc.kind == .function && sc.names.lookup y == some .cell) then .cell else k)
  | [], h => by cases h
  | (x, k') :: r, h => by
    rw [List.lookup_cons] at h
    rw [List.map_cons, List.lookup_cons]
    cases hb : y == x with
    | true =>
      rw [hb] at h
      cases h
      have : y = x := by simpa using hb
      subst this
      by_cases hc : (k == NameKind.free && sc.kind == .function && sc.names.lookup y == some .cell) = true
      · simp only [if_pos hc]; simp
      · simp only [if_neg hc]; simp
    | false =>
      rw [hb] at h
      have e : ((fun (x : Str × NameKind) => (match x with | (n, k) => if (k == NameKind.free && sc.kind == .function && sc.names.lookup n == some .cell) then (n, NameKind.cell) else (n, k)) : Str × NameKind → Str × NameKind) (x, k')).1 = x := by
        dsimp only; split <;> rfl
      have e' : (y == ((fun (x : Str × NameKind) => (match x with | (n, k) => if (k == NameKind.free && sc.kind == .function && sc.names.lookup n == some .cell) then (n, NameKind.cell) else (n, k)) : Str × NameKind → Str × NameKind) (x, k')).1) = false := by rw [e]; exact hb
      simp only [] at e' ⊢
      rw [e']
      exact lookup_relabel h

/-- where the block of a comprehension begins -/
theorem comp_start {scope : Scope} {tn capn : List Str} {caps : List Nat} {capd : List D} (ok : ScopeOk scope sc tn capn)
    (hcv : caps.map (vars[·]?) = capn.map some) (hcd : caps.map (ρ[·]?) = capd.map fun d => some (some d))
    {env : Env} {U : Addr → Prop} {s₂ : Shared} (f : Fits sc env) (I : Stand W U env vars ρ st s₂) (D : Addr) (h₃ : Heap) (hD : s₂.heap.get? D = none) (hD' : ∃ o, h₃.get? D = some o)
    (h23 : ∀ b o, s₂.heap.get? b = some o → h₃.get? b = some o) (hDn : ∀ a, h₃.objs.size ≤ a → s₂.heap.get? a = none) :
    let cenv : Env := { scope := relabelS scope sc, locals := h₃.objs.size, globals := env.globals, cells := cellsFrom (h₃.objs.size + 1) scope.names (clo env scope.names []), qual := env.qual, func := none, code := env.code, frame := env.frame, builtins := env.builtins }
    let s₄ : Shared := { s₂ with heap := pushCells (h₃.push { cls := .type "dict", data := .dict #[] }) scope.names }
    Fits (relabelS scope sc) cenv ∧ Stand W (fun a => U a ∨ a = D) cenv (tn ++ capn) (tn.map (fun _ => none) ++ capd.map some) st s₄ ∧ (∀ x ∈ tn, Stored cenv x) ∧
      (∀ a, Own cenv tn a → s₂.heap.get? a = none) ∧ Ext Nowhere s₂ s₄ ∧ (∀ b o, h₃.get? b = some o → s₄.heap.get? b = some o) ∧ (∀ a, Own cenv tn a → a ≠ D) ∧ (∀ y c, cenv.cells.lookup y = some c → s₂.heap.get? c = none ∨ env.cells.lookup y = some c) := by
  intro cenv s₄
  have hk4 : ∀ b o, h₃.get? b = some o → s₄.heap.get? b = some o := fun b o e => pushCells_keeps _ _ b o (Heap.get?_push_of_some _ e)
  have x24 : Ext Nowhere s₂ s₄ := .heap (tk := s₂.toks) fun b o e => hk4 b o (h23 b o e)
  have capl : capn.length = capd.length := by
    have h1 := congrArg List.length hcv; have h2 := congrArg List.length hcd
    simp only [List.length_map] at h1 h2; omega
  have capat : ∀ (i : Nat) (y : Str), capn[i]? = some y → ∃ j d, vars[j]? = some y ∧ ρ[j]? = some (some d) ∧ capd[i]? = some d := fun i y hy => by
    have h1 := congrArg (·[i]?) hcv
    have h2 := congrArg (·[i]?) hcd
    simp only [List.getElem?_map, hy, Option.map_some] at h1 h2
    cases hj : caps[i]? with
    | none => rw [hj] at h1; cases h1
    | some j =>
      rw [hj] at h1 h2
      simp only [Option.map_some, Option.some.injEq] at h1 h2
      cases hd : capd[i]? with
      | none =>
        have := (List.getElem?_eq_some_iff.mp hy).1
        rw [List.getElem?_eq_none_iff] at hd; omega
      | some d => rw [hd] at h2; simp only [Option.map_some, Option.some.injEq] at h2; exact ⟨j, d, h1, h2, rfl⟩
  have capcell : ∀ y ∈ capn, ∃ c v, env.cells.lookup y = some c ∧ s₂.heap.IsCell c (some v) := fun y hy => by
    obtain ⟨i, hi⟩ := List.getElem?_of_mem hy
    obtain ⟨j, d, h1, h2, _⟩ := capat i y hi
    obtain ⟨v, hv, _⟩ := I.sto j y d h1 h2
    rcases hv with ⟨hl, _⟩ | ⟨_, c, hc, hv⟩
    · exfalso
      have hl' : sc.names.lookup y = some .local := by rw [← f.scope]; exact hl
      rw [ok.cap y hy] at hl'; cases hl'
    · exact ⟨c, v, hc, hv⟩
  have hsome : ∀ x, (x, NameKind.free) ∈ scope.names → (env.cells.lookup x).isSome = true := fun x hx => by
    obtain ⟨c, _, hc, _⟩ := capcell x ((ok.free x).mp hx); rw [hc]; rfl
  have hcl : ∀ y, (clo env scope.names []).lookup y = if (y, NameKind.free) ∈ scope.names then env.cells.lookup y else none := fun y => by
    rw [clo_lookup env y _ _ hsome]; rfl
  have split : ∀ y, cenv.cells.lookup y = ((cellsFrom (h₃.objs.size + 1) scope.names []).lookup y).or ((clo env scope.names []).lookup y) := fun y => by
    show (cellsFrom (h₃.objs.size + 1) scope.names (clo env scope.names [])).lookup y = _
    rw [cellsFrom_append, List.lookup_append]
  have okc := cellsFrom_ok scope.names (h₃.push { cls := .type "dict", data := .dict #[] }) (h₃.objs.size + 1) [] ⟨fun _ _ hm => (nomatch hm), List.Pairwise.nil⟩ (by rw [Heap.size_push]; exact Nat.le_refl _)
  rw [Heap.size_push] at okc
  have uniq : ∀ {y : Str} {k k' : NameKind}, (y, k) ∈ scope.names → (y, k') ∈ scope.names → k = k' := fun h h' => by
    have e1 := lookup_of_mem_nodup ok.nd h
    rw [lookup_of_mem_nodup ok.nd h'] at e1; exact (Option.some.inj e1).symm
  have own : ∀ y c, cenv.cells.lookup y = some c → (s₂.heap.get? c = none ∧ (y, c) ∈ cellsFrom (h₃.objs.size + 1) scope.names [] ∧ h₃.objs.size < c) ∨ ((y, NameKind.free) ∈ scope.names ∧ env.cells.lookup y = some c) := fun y c hc => by
    rw [split] at hc
    cases h1 : (cellsFrom (h₃.objs.size + 1) scope.names []).lookup y with
    | some c' =>
      rw [h1] at hc; cases hc
      have hm := mem_of_lookup h1
      have hle := (okc.empty _ _ hm).2
      exact .inl ⟨hDn c (by omega), hm, by omega⟩
    | none =>
      rw [h1, Option.none_or, hcl] at hc
      by_cases hf : (y, NameKind.free) ∈ scope.names
      · rw [if_pos hf] at hc; exact .inr ⟨hf, hc⟩
      · rw [if_neg hf] at hc; cases hc
  have freshNot : ∀ a, s₂.heap.get? a = none → ¬ W.foot a ∧ hS.get? a = none ∧ ¬ U a := fun a ha => by
    refine ⟨fun m => ?_, ?_, fun m => ?_⟩
    · obtain ⟨o, e⟩ := W.alive I.hold a m; rw [ha] at e; cases e
    · cases e : hS.get? a with
      | none => rfl
      | some o => rw [I.static a o e] at ha; cases ha
    · obtain ⟨o, e⟩ := I.low a m; rw [ha] at e; cases e
  have hC : s₂.heap.get? h₃.objs.size = none := hDn _ (Nat.le_refl _)
  have hCD : h₃.objs.size ≠ D := fun q => by obtain ⟨o, e⟩ := hD'; rw [← q] at e; exact Nat.lt_irrefl _ (Heap.lt_size e)
  refine ⟨⟨rfl, ok.kind, f.globals, f.builtins⟩, ⟨fun a o e => x24.keep a o id (I.static a o e), fun a m => .inl (I.mutU a m), fun a u => ?_, I.hold0 x24, ?_, (freshNot _ hC).1, (freshNot _ hC).2.1, fun x c hc => ?_, fun x c hc => ?_, fun x c hc => ?_, fun x y c hx hy => ?_, fun i x d h1 h2 => ?_⟩, fun x hx => ?_, fun a ha => ?_, x24, hk4, fun a ha => ?_, fun y c hc => (own y c hc).imp (fun h => h.1) (fun h => h.2)⟩
  · rcases u with u | rfl
    · obtain ⟨o, e⟩ := I.low a u; exact ⟨o, x24.keep a o id e⟩
    · obtain ⟨o, e⟩ := hD'; exact ⟨o, hk4 _ _ e⟩
  · exact ⟨_, (Heap.Ns.new h₃ (.type "dict")).keeps fun b o e => pushCells_keeps _ _ b o e⟩
  · rcases own x c hc with ⟨h, _⟩ | ⟨_, h⟩
    · exact (freshNot c h).1
    · exact I.cells x c h
  · rcases own x c hc with ⟨h, _⟩ | ⟨_, h⟩
    · exact (freshNot c h).2.1
    · exact I.cellsS x c h
  · rcases own x c hc with ⟨_, h, _⟩ | ⟨_, h⟩
    · exact ⟨none, (okc.empty _ _ h).1⟩
    · obtain ⟨v, hv⟩ := I.cellv x c h; exact ⟨v, isCell_at hv fun o e => x24.keep _ o id e⟩
  · rcases own x c hx with ⟨h, h', _⟩ | ⟨_, h⟩ <;> rcases own y c hy with ⟨g, g', _⟩ | ⟨_, g⟩
    · exact name_of_addr okc.apart h' g'
    · exfalso; obtain ⟨v, o, e, _⟩ := I.cellv y c g; rw [h] at e; cases e
    · exfalso; obtain ⟨v, o, e, _⟩ := I.cellv x c h; rw [g] at e; cases e
    · exact I.inj x y c h g
  · have hi : ¬ i < tn.length := fun hi => by
      rw [List.getElem?_append_left (by simpa using hi), List.getElem?_map] at h2
      cases hq : tn[i]? with
      | none => rw [hq] at h2; cases h2
      | some q => rw [hq] at h2; cases h2
    rw [List.getElem?_append_right (by omega)] at h1
    rw [List.getElem?_append_right (by simp; omega), List.length_map, List.getElem?_map] at h2
    obtain ⟨j, d', k1, k2, k3⟩ := capat _ _ h1
    rw [k3] at h2
    simp only [Option.map_some, Option.some.injEq] at h2
    subst h2
    obtain ⟨v, hv, hr⟩ := I.sto j x d' k1 k2
    have hxm := List.mem_of_getElem? h1
    refine ⟨v, .inr ⟨.inl ?_, ?_⟩, ?_⟩
    · show (relabelS scope sc).names.lookup x = some .cell
      have e := lookup_relabel (sc := sc) (lookup_of_mem_nodup ok.nd ((ok.free x).mpr hxm))
      unfold relabelS
      rw [e, ok.cap x hxm, f.kind]; rfl
    · rcases hv with ⟨hl, _⟩ | ⟨_, c, hc, hv⟩
      · exfalso
        have hl' : sc.names.lookup x = some .local := by rw [← f.scope]; exact hl
        rw [ok.cap x hxm] at hl'; cases hl'
      · refine ⟨c, ?_, isCell_at hv fun o e => x24.keep _ o id e⟩
        rw [split, hcl, if_pos ((ok.free x).mpr hxm)]
        have : (cellsFrom (h₃.objs.size + 1) scope.names []).lookup x = none := lookup_none_of fun c' hc' => by
          have := (mem_cellsFrom _ _ _ _ hc').1
          cases uniq this ((ok.free x).mpr hxm)
        rw [this]; exact hc
    · refine hr.move fun a o nu _ e => ⟨x24.keep a o id e, ?_⟩
      rintro (u | rfl)
      · exact nu u
      · rw [hD] at e; cases e
  · rcases ok.tn x hx with h | h
    · left
      show (relabelS scope sc).names.lookup x = some .local
      unfold relabelS
      rw [lookup_relabel (sc := sc) (lookup_of_mem_nodup ok.nd h)]; rfl
    · right
      refine ⟨?_, ?_⟩
      · show (relabelS scope sc).names.lookup x = some .cell
        unfold relabelS
        rw [lookup_relabel (sc := sc) (lookup_of_mem_nodup ok.nd h)]; rfl
      · obtain ⟨c, hc⟩ := cellsFrom_mem scope.names (h₃.objs.size + 1) x h
        exact ⟨c, by rw [split, hc]; rfl⟩
  · rcases ha with rfl | ⟨x, hx, hc⟩
    · exact hC
    · rcases own x a hc with ⟨h, _⟩ | ⟨h, _⟩
      · exact h
      · exfalso
        rcases ok.tn x hx with q | q <;> cases uniq q h
  · rcases ha with rfl | ⟨x, hx, hc⟩
    · exact hCD
    · rcases own x a hc with ⟨_, _, h⟩ | ⟨h, _⟩
      · intro q; subst q
        obtain ⟨o, e⟩ := hD'
        exact Nat.lt_irrefl _ (Nat.lt_trans h (Heap.lt_size e))
      · exfalso
        rcases ok.tn x hx with q | q <;> cases uniq q h
end
end
section
section
variable {hS : Heap} {prog : Program} {w : World} {n : Nat}
variable {W : Wd hS} {sc : Scope} {vars : List Str} {ρ : List (Option D)} {st st₁ st₂ st₃ : W.σ}

noncomputable def TS (prog : Program) (w : World) (n : Nat) (W : Wd hS) (sc : Scope) (vars : List Str) (ρ : List (Option D)) (st : W.σ) (ifs : List Expr) (b : Bool) (st' : W.σ) : Prop :=
  ∀ (A : Around) (env : Env) (U : Addr → Prop) (s : Shared), Room A n → Fits sc env → Stand W U env vars ρ st s →
    wpAny (model prog w) A (forIn ifs true fun c r => if r = true then do let ok ← isTrue c env (eval c env); pure (ForInStep.yield ok) else pure (ForInStep.yield r))
      (fun c s' => Ext W.Mut s s' ∧ W.holds st' s' ∧ c = b) (fun _ _ => False) s
theorem TS.nil : TS prog w n W sc vars ρ st [] true st := fun _ _ _ _ _ _ I => wpAny_tests_nil ⟨.refl _ _, I.hold, rfl⟩
theorem TS.one {c : Expr} {b : Bool} (h : ET prog w n W sc vars ρ st c b st₁) : TS prog w n W sc vars ρ st [c] b st₁ := fun A env U s r f I => wpAny_tests_one (h A env U s r f I)

theorem Stand.forget {U : Addr → Prop} {env : Env} {s : Shared} {ρ' : List (Option D)} (I : Stand W U env vars ρ st s) (h : ∀ (i : Nat) (d : D), ρ'[i]? = some (some d) → ρ[i]? = some (some d)) : Stand W U env vars ρ' st s :=
  ⟨I.static, I.mutU, I.low, I.hold, I.ns, I.locals, I.localsS, I.cells, I.cellsS, I.cellv, I.inj, fun i x d h1 h2 => I.sto i x d h1 (h i d h2)⟩

theorem Stand.grow {U : Addr → Prop} {env : Env} {s s' : Shared} (I : Stand W U env vars ρ st s) (x : Ext W.Mut s s') (h : W.holds st₁ s') (N : Addr → Prop) (h1 : ∀ a, N a → s.heap.get? a = none) (h2 : ∀ a, N a → ∃ o, s'.heap.get? a = some o) :
    Stand W (fun a => U a ∨ N a) env vars ρ st₁ s' :=
  let I' := I.step x h
  ⟨I'.static, fun a m => .inl (I'.mutU a m), fun a u => u.elim (I'.low a) (h2 a), I'.hold, I'.ns, I'.locals, I'.localsS, I'.cells, I'.cellsS, I'.cellv, I'.inj, fun i y d k1 k2 => by
    obtain ⟨v, hv, hr⟩ := I.sto i y d k1 k2
    refine ⟨v, hv.at (fun o e => x.keep _ o (fun q => I.locals (W.mutF _ q)) e) (fun c hc o e => x.keep _ o (fun q => I.cells y c hc (W.mutF _ q)) e), hr.move fun a o nu _ e => ⟨x.keep a o (fun m => nu (I.mutU a m)) e, ?_⟩⟩
    rintro (u | u)
    · exact nu u
    · rw [h1 a u] at e; cases e⟩

theorem comp_begin {scope : Scope} {tn capn : List Str} {caps : List Nat} {capd : List D} (ok : ScopeOk scope sc tn capn)
    (hcv : caps.map (vars[·]?) = capn.map some) (hcd : caps.map (ρ[·]?) = capd.map fun d => some (some d))
    {env : Env} {U : Addr → Prop} {s₂ : Shared} (f : Fits sc env) (I : Stand W U env vars ρ st s₂) (D : Addr) (h₃ : Heap) (hD : s₂.heap.get? D = none) (hD' : ∃ o, h₃.get? D = some o)
    (h23 : ∀ b o, s₂.heap.get? b = some o → h₃.get? b = some o) (hDn : ∀ a, h₃.objs.size ≤ a → s₂.heap.get? a = none) (cenv : Env) (s₄ : Shared)
    (hc : cenv = { scope := relabelS scope sc, locals := h₃.objs.size, globals := env.globals, cells := cellsFrom (h₃.objs.size + 1) scope.names (clo env scope.names []), qual := env.qual, func := none, code := env.code, frame := env.frame, builtins := env.builtins })
    (hs : s₄ = { s₂ with heap := pushCells (h₃.push { cls := .type "dict", data := .dict #[] }) scope.names }) :
    Fits (relabelS scope sc) cenv ∧ Stand W (fun a => U a ∨ a = D) cenv (tn ++ capn) (tn.map (fun _ => none) ++ capd.map some) st s₄ ∧ (∀ x ∈ tn, Stored cenv x) ∧
      (∀ a, Own cenv tn a → s₂.heap.get? a = none) ∧ Ext Nowhere s₂ s₄ ∧ (∀ b o, h₃.get? b = some o → s₄.heap.get? b = some o) ∧ (∀ a, Own cenv tn a → a ≠ D) ∧ (∀ y c, cenv.cells.lookup y = some c → s₂.heap.get? c = none ∨ env.cells.lookup y = some c) := by
  subst hc; subst hs
  exact comp_start ok hcv hcd f I D h₃ hD hD' h23 hDn

theorem comp_run {α : Type} {elt iter target : Expr} {ifs : List Expr} {scope : Scope} {pos pos' : Pos} (tn capn : List Str) (caps : List Nat) (capd : List D) (xs : List α) (g : α → D) (tds : α → List D) (p : α → Bool) (f : α → D) (T : List α → W.σ)
    (hok : scopeOk scope sc tn capn = true) (hcv : caps.map (vars[·]?) = capn.map some) (hcd : caps.map (ρ[·]?) = capd.map fun d => some (some d))
    (hsz : xs.length ≤ 1000000) (hsrc : EVit prog w n W sc vars ρ st iter (xs.map g) (T []))
    (hAS : ∀ x ∈ xs, AS prog w W (relabelS scope sc) (tn ++ capn) tn target (g x) (tn.map (fun _ => none) ++ capd.map some) ((tds x).map some ++ capd.map some)) (htl : ∀ x ∈ xs, (tds x).length = tn.length)
    (hturn : ∀ pre x post, xs = pre ++ x :: post → ∃ stt, TS prog w n W (relabelS scope sc) (tn ++ capn) ((tds x).map some ++ capd.map some) (T pre) ifs (p x) stt ∧
      (p x = true → EV prog w n W (relabelS scope sc) (tn ++ capn) ((tds x).map some ++ capd.map some) stt elt (f x) (T (pre ++ [x]))) ∧ (p x = false → T (pre ++ [x]) = stt))
    (hfs : ∀ env x, foldedSetIterable iter env x = pure x := by intro _ _; rfl)
    {A : Around} {env : Env} {U : Addr → Prop} {s : Shared} (rm : Room A n) (ft : Fits sc env) (I : Stand W U env vars ρ st s) {use : Option (Value → Sem Unit)} {Q : Value → Shared → Prop}
    (hR : ∀ (C : Addr) (acc : Value) (s' : Shared), s.heap.get? C = none → (∃ m, s'.heap.Ns C m) → Ext W.Mut s s' → W.holds (T xs) s' → Rep U s'.heap acc (.list ((xs.filter p).map f)) → compPost (model prog w) A (fun _ _ => False) use Q acc C (.ok .next) s') :
    wpAny (model prog w) A (comprehension (.ListComp elt [⟨target, iter, ifs, 0⟩] scope pos) scope env pos' (newList []) false (eval iter env) use) Q (fun _ _ => False) s := by
  have ok := scopeOk_spec hok
  have hsome : ∀ x, (x, NameKind.free) ∈ scope.names → (env.cells.lookup x).isSome = true := fun x hx => by
    have hy := (ok.free x).mp hx
    obtain ⟨i, hi⟩ := List.getElem?_of_mem hy
    have h1 := congrArg (·[i]?) hcv
    have h2 := congrArg (·[i]?) hcd
    simp only [List.getElem?_map, hi, Option.map_some] at h1 h2
    cases hj : caps[i]? with
    | none => rw [hj] at h1; cases h1
    | some j =>
      rw [hj] at h1 h2
      simp only [Option.map_some, Option.some.injEq] at h1 h2
      cases hd : capd[i]? with
      | none => rw [hd] at h2; cases h2
      | some d =>
        rw [hd] at h2; simp only [Option.map_some, Option.some.injEq] at h2
        obtain ⟨v, hv, _⟩ := I.sto j x d h1 h2
        rcases hv with ⟨hl, _⟩ | ⟨_, c, hc, hv⟩
        · exfalso
          have hl' : sc.names.lookup x = some .local := by rw [← ft.scope]; exact hl
          rw [ok.cap x hy] at hl'; cases hl'
        · rw [hc]; rfl
  refine wpAny_comprehension_free (use := use) rfl (hfs env) (closureFor_is hsome) ok.kind (fun x hx hl => by
    obtain ⟨y, k⟩ := x
    have : k = .local := hl
    subst this
    exact lookup_of_mem_nodup ok.nd hx) (false_any (wpAny_mono (hsrc A env U s rm ft I) (fun xv s1 h1 => false_any (wpAny_mono h1 (fun it s₂ h2 => ?_) fun _ _ x => x)) fun _ _ x => x))
  obtain ⟨x2, hold2, Iad, fp, wr, P, St, rfl, Wk, st0, hfp, hwr, hlet, hwa, hrep⟩ := h2
  have I2 := I.grow x2 hold2 (fun a => a ∈ wr) hwr (fun a ha => hwa 0 _ st0 a ha)
  have hD : s₂.heap.get? s₂.heap.objs.size = none := get_size_none _
  refine wpAny_newObj_type (newEnv_cells ?_)
  rw [relabel_eq ft]
  obtain ⟨H3, hH3⟩ : ∃ H3, H3 = s₂.heap.push { cls := .type "list", dict := none, data := .seq ([] : List Value).toArray } := ⟨_, rfl⟩
  obtain ⟨cenv, hcenv⟩ : ∃ cenv : Env, cenv = { scope := relabelS scope sc, locals := H3.objs.size, globals := env.globals, cells := cellsFrom (H3.objs.size + 1) scope.names (clo env scope.names []), qual := env.qual, func := none, code := env.code, frame := env.frame, builtins := env.builtins } := ⟨_, rfl⟩
  obtain ⟨s₄, hs4⟩ : ∃ s₄ : Shared, s₄ = { s₂ with heap := pushCells (H3.push { cls := .type "dict", data := .dict #[] }) scope.names } := ⟨_, rfl⟩
  obtain ⟨cf, cI, cst, cown, x24, hk4, cD, ccell⟩ := comp_begin ok hcv hcd ft I2 s₂.heap.objs.size H3 hD ⟨_, by rw [hH3]; exact Heap.get?_push_size _ rfl⟩ (fun b o e => by rw [hH3]; exact Heap.get?_push_of_some _ e) (fun a ha => by
    rw [hH3, Heap.size_push] at ha
    cases e : s₂.heap.get? a with
    | none => rfl
    | some o => exact absurd (Heap.lt_size e) (Nat.not_lt.mpr (Nat.le_of_succ_le ha))) cenv s₄ hcenv hs4
  have hDlist : s₄.heap.PlainList s₂.heap.objs.size #[] := ⟨0, hk4 _ _ (by rw [hH3]; exact Heap.get?_push_size _ rfl)⟩
  have hDfp : s₂.heap.objs.size ∉ fp := fun hm => by obtain ⟨⟨o, e, _⟩, _⟩ := hfp _ hm; rw [hD] at e; cases e
  have hDwr : s₂.heap.objs.size ∉ wr := fun hm => hDfp (Wk.sub _ hm)
  have ownfp : ∀ b ∈ fp, ¬ Own cenv tn b := fun b hb o => by
    have := cown b o; obtain ⟨⟨o', e, _⟩, _⟩ := hfp b hb; rw [this] at e; cases e
  let Chg : Addr → Prop := fun b => (W.Mut b ∨ b ∈ wr) ∨ b = s₂.heap.objs.size ∨ Own cenv tn b
  have hst4 : St 0 s₄.heap := Wk.frame _ _ _ st0 fun b _ o e => x24.keep b o id e
  have nodeKeep : ∀ {s' : Shared} {U' : Addr → Prop}, Ext Chg s₄ s' → (∀ a, U' a → (U a ∨ a ∈ wr) ∨ a = s₂.heap.objs.size) → ∀ {v d}, Rep (fun a => U a ∨ a ∈ wr) s₂.heap v d → Rep U' s'.heap v d := fun {s'} {U'} xc hU {v} {d} r =>
    r.move fun a o nu _ e => by
      have e4 := x24.keep a o id e
      refine ⟨xc.keep a o ?_ e4, fun u => ?_⟩
      · rintro ((m | m) | m | m)
        · exact nu (.inl (I.mutU a m))
        · exact nu (.inr m)
        · subst m; rw [hD] at e; cases e
        · rw [cown a m] at e; cases e
      · rcases hU a u with q | q
        · exact nu q
        · subst q; rw [hD] at e; cases e
  let U' : Addr → Prop := fun a => (U a ∨ a ∈ wr) ∨ a = s₂.heap.objs.size
  let J : Nat → Shared → Prop := fun k s' => ∃ pre post ys, xs = pre ++ post ∧ k = post.length + 1 ∧ St pre.length s'.heap ∧ Ext Chg s₄ s' ∧
    Stand W U' cenv (tn ++ capn) (tn.map (fun _ => none) ++ capd.map some) (T pre) s' ∧ s'.heap.PlainList s₂.heap.objs.size ys.toArray ∧
    Reps U' s'.heap ys ((pre.filter p).map f)
  have hloop : codeAny (model prog w) A (.compLoop (.ListComp elt [⟨target, iter, ifs, 0⟩] scope pos) 0 (.ref Iad) (.ref s₂.heap.objs.size) cenv)
      (compPost (model prog w) A (fun _ _ => False) use Q (.ref s₂.heap.objs.size) cenv.locals) s₄ := by
    refine codeAny_compLoop_any J ?_ (xs.length + 1) ⟨[], xs, [], rfl, rfl, hst4, .refl _ _, cI, hDlist, .nil⟩
    rintro k s' ⟨pre, post, ys, hxs, rfl, hst, xc, cI', hpl, hrs⟩
    have hCwr : cenv.locals ∉ wr := fun hmem => ownfp _ (Wk.sub _ hmem) (.inl rfl)
    cases post with
    | nil =>
      have hpre : pre = xs := by rw [hxs]; simp
      subst hpre
      have hlen : ((pre.map g).length) = pre.length := by simp
      refine false_any (Wk.done s' _ _ (by rw [hlen]; exact hst) fun h' tk hk => ?_)
      obtain ⟨m, hm⟩ := cI'.ns
      refine hR cenv.locals _ _ ?_ ⟨m, hm.at' fun o e => hk _ o hCwr e⟩ ⟨fun b o hb e => ?_, (xc.os.trans x24.os).trans x2.os, Nat.le_trans (Nat.le_trans x2.gsize x24.gsize) xc.gsize, fun q hq => ?_, fun q => xc.bare (x24.bare (x2.bare q))⟩ ?_ ?_
      · exact fresh_of_ext x2 (fun a m => W.alive hold2 a (W.mutF a m)) (cown _ (.inl rfl))
      · have e2 := x2.keep b o hb e
        have e4 := x24.keep b o id e2
        have hbw : b ∉ wr := fun hm => by rw [hwr b hm] at e; cases e
        have hbo : ¬ Own cenv tn b := fun ho => by rw [cown b ho] at e2; cases e2
        refine hk b o hbw (xc.keep b o ?_ e4)
        rintro ((m | m) | m | m)
        · exact hb m
        · exact hbw m
        · subst m; rw [hD] at e2; cases e2
        · exact hbo m
      · exact (xc.gens q (Nat.lt_of_lt_of_le hq (Nat.le_trans x2.gsize x24.gsize))).trans ((x24.gens q (Nat.lt_of_lt_of_le hq x2.gsize)).trans (x2.gens q hq))
      · refine W.stable cI'.hold (fun a o fa e => hk a o (fun hm => ?_) e) (fun a o e => hk a o (fun hm => ?_) (cI'.static a o e))
        · obtain ⟨o', e'⟩ := W.alive I.hold a fa
          rw [hwr a hm] at e'; cases e'
        · have := I.static a o e; rw [hwr a hm] at this; cases this
      · refine .list _ ys _ (fun u => ?_) ?_ (hrs.move fun a o nu hd e => ⟨hk a o (fun hm => nu (.inl (.inr hm))) e, fun u => nu (.inl (.inl u))⟩)
        · obtain ⟨o, e⟩ := I2.low _ (.inl u); rw [hD] at e; cases e
        · obtain ⟨m', e⟩ := hpl
          exact ⟨m', hk _ _ hDwr e⟩
    | cons x post =>
      have hx : x ∈ xs := by rw [hxs]; simp
      have hi : pre.length < (xs.map g).length := by rw [hxs]; simp
      refine Wk.item pre.length s' _ _ hi hst fun v h' tk hP hst' hk => ?_
      obtain ⟨d, hd, hrv⟩ := hrep _ _ hi hP
      have hd' : d = g x := by
        rw [hxs] at hd
        simp at hd
        exact hd.symm
      subst hd'
      -- behind the draw
      have s1keep : ∀ b o, b ∉ wr → s'.heap.get? b = some o → h'.get? b = some o := hk
      have xc1 : Ext Chg s₄ { s' with heap := h', toks := tk } := xc.trans ⟨fun b o hb e => hk b o (fun m => hb (.inl (.inr m))) e, rfl, Nat.le_refl _, fun _ _ => rfl, fun b => b⟩
      have stand1 : Stand W U' cenv (tn ++ capn) (tn.map (fun _ => none) ++ capd.map some) (T pre) { s' with heap := h', toks := tk } := by
        have stat : ∀ a o, hS.get? a = some o → h'.get? a = some o := fun a o e => hk a o (fun hm => by have := I.static a o e; rw [hwr a hm] at this; cases this) (cI'.static a o e)
        have nomut : ∀ a, W.foot a → a ∉ wr := fun a m hm => by obtain ⟨o', e'⟩ := W.alive I.hold a m; rw [hwr a hm] at e'; cases e'
        have cellwr : ∀ y c, cenv.cells.lookup y = some c → c ∉ wr := fun y c hc hm => by
          obtain ⟨⟨o, e, _⟩, _⟩ := hfp c (Wk.sub c hm)
          rcases ccell y c hc with q | q
          · rw [q] at e; cases e
          · obtain ⟨u, o', e', _⟩ := I.cellv y c q
            rw [hwr c hm] at e'; cases e'
        refine ⟨stat, cI'.mutU, fun a u => ?_, W.stable cI'.hold (fun a o fa e => hk a o (nomut a fa) e) stat, ?_, cI'.locals, cI'.localsS, cI'.cells, cI'.cellsS, fun y c hc => ?_, cI'.inj, fun i y d h1 h2 => ?_⟩
        · rcases u with (u | u) | u
          · obtain ⟨o, e⟩ := cI'.low a (.inl (.inl u))
            by_cases hm : a ∈ wr
            · exact hwa _ _ hst' a hm
            · exact ⟨o, hk a o hm e⟩
          · exact hwa _ _ hst' a u
          · subst u; obtain ⟨m', e⟩ := hpl; exact ⟨_, hk _ _ hDwr e⟩
        · obtain ⟨m, hm⟩ := cI'.ns; exact ⟨m, hm.at' fun o e => hk _ o hCwr e⟩
        · obtain ⟨u, hu⟩ := cI'.cellv y c hc; exact ⟨u, isCell_at hu fun o e => hk _ o (cellwr y c hc) e⟩
        · obtain ⟨u, hu, hr⟩ := cI'.sto i y d h1 h2
          exact ⟨u, hu.at (fun o e => hk _ o hCwr e) (fun c hc o e => hk _ o (cellwr y c hc) e), hr.move fun a o nu _ e => ⟨hk a o (fun m => nu (.inl (.inr m))) e, nu⟩⟩
      have hrs1 : Reps U' h' ys ((pre.filter p).map f) := hrs.move fun a o nu _ e => ⟨hk a o (fun m => nu (.inl (.inr m))) e, nu⟩
      have hpl1 : h'.PlainList s₂.heap.objs.size ys.toArray := let ⟨m', e⟩ := hpl; ⟨m', hk _ _ hDwr e⟩
      have hrv1 : Rep U' h' v (g x) := nodeKeep xc1 (fun _ q => q) hrv
      refine hlet _ _ _ _ _ hst' ?_
      have hAx := hAS x hx (v := v) rm.handled cf stand1 cst hrv1
      refine wpAny_mono hAx (fun _ s2 q2 => ?_) fun _ _ x => x
      obtain ⟨xa, stand2⟩ := q2
      have ownKeep : ∀ b o, ¬ Own cenv tn b → h'.get? b = some o → s2.heap.get? b = some o := fun b o hb e => xa.keep b o hb e
      have hst2 : St (pre.length + 1) s2.heap := Wk.frame _ _ _ hst' fun b hb o e => ownKeep b o (ownfp b hb) e
      have xc2 : Ext Chg s₄ s2 := xc1.trans (xa.mono fun a o => .inr (.inr o))
      have hrs2 : Reps U' s2.heap ys ((pre.filter p).map f) := hrs1.move fun a o nu ⟨xs', m', hd⟩ e => ⟨ownKeep a o (fun own => by
        rcases own with rfl | ⟨y, _, hc⟩
        · obtain ⟨m₀, hm⟩ := stand1.ns; exact ns_not_seq hm e hd
        · obtain ⟨u, hu⟩ := stand1.cellv y a hc; exact cell_not_seq hu e hd) e, nu⟩
      have hpl2 : s2.heap.PlainList s₂.heap.objs.size ys.toArray := let ⟨m', e⟩ := hpl1; ⟨m', ownKeep _ _ (fun o => cD _ o rfl) e⟩
      obtain ⟨stt, hts, he1, he0⟩ := hturn pre x post hxs
      refine wpAny_mono (hts A cenv U' s2 rm cf stand2) (fun okk s3 q3 => ?_) fun _ _ x => x
      obtain ⟨xb, hb, rfl⟩ := q3
      have stand3 := stand2.step xb hb
      have mutKeep : ∀ {t t' : Shared}, Ext W.Mut t t' → ∀ b ∈ fp, ∀ o, t.heap.get? b = some o → t'.heap.get? b = some o := fun y b hb o e => y.keep b o (hfp b hb).2 e
      have hst3 : St (pre.length + 1) s3.heap := Wk.frame _ _ _ hst2 (mutKeep xb)
      have xc3 : Ext Chg s₄ s3 := xc2.trans (xb.mono fun a m => .inl (.inl m))
      have hrs3 : Reps U' s3.heap ys ((pre.filter p).map f) := hrs2.ext xb stand2.mutU
      have Dmut : ¬ W.Mut s₂.heap.objs.size := fun m => by obtain ⟨o, e⟩ := I2.low _ (I2.mutU _ m); rw [hD] at e; cases e
      have hpl3 : s3.heap.PlainList s₂.heap.objs.size ys.toArray := let ⟨m', e⟩ := hpl2; ⟨m', xb.keep _ _ Dmut e⟩
      have noneLess : ∀ (i : Nat) (d : D), (tn.map (fun _ => none) ++ capd.map some)[i]? = some (some d) → ((tds x).map some ++ capd.map some)[i]? = some (some d) := fun i d h => by
        by_cases hi : i < tn.length
        · rw [List.getElem?_append_left (by simpa using hi), List.getElem?_map] at h
          cases hq : tn[i]? with
          | none => rw [hq] at h; cases h
          | some q => rw [hq] at h; cases h
        · rw [List.getElem?_append_right (by simp; omega)] at h
          rw [List.getElem?_append_right (by simp [htl x hx]; omega)]
          simpa [htl x hx] using h
      cases hpx : p x with
      | false =>
        simp only [Bool.false_eq_true, if_false]
        refine ⟨post.length + 1, by simp, pre ++ [x], post, ys, by rw [hxs]; simp, rfl, by simpa using hst3, xc3, ?_, hpl3, ?_⟩
        · rw [he0 hpx]; exact stand3.forget noneLess
        · rw [List.filter_append]; simpa [hpx] using hrs3
      | true =>
        simp only [if_true]
        refine wpAny_mono (he1 hpx A cenv U' s3 rm cf stand3) (fun y s4' q4 => ?_) fun _ _ x => x
        obtain ⟨xd, hd4, ry⟩ := q4
        have stand4 := stand3.step xd hd4
        have hst4' : St (pre.length + 1) s4'.heap := Wk.frame _ _ _ hst3 (mutKeep xd)
        have xc4 : Ext Chg s₄ s4' := xc3.trans (xd.mono fun a m => .inl (.inl m))
        have hrs4 : Reps U' s4'.heap ys ((pre.filter p).map f) := hrs3.ext xd stand3.mutU
        have hpl4 : s4'.heap.PlainList s₂.heap.objs.size ys.toArray := let ⟨m', e⟩ := hpl3; ⟨m', xd.keep _ _ Dmut e⟩
        have hysl : ys.toArray.size ≤ sizeLine := by
          rw [List.size_toArray, hrs4.length, List.length_map]
          refine Nat.le_trans (List.length_filter_le _ _) (Nat.le_trans ?_ (show 1000000 ≤ sizeLine by decide))
          have : pre.length ≤ xs.length := by rw [hxs]; simp
          omega
        refine wpAny_list_append_plain (hsz := hysl) hpl4 fun h5 hl5 hs5 => ?_
        have k5 : ∀ b o, b ≠ s₂.heap.objs.size → s4'.heap.get? b = some o → h5.get? b = some o := fun b o hb e => (hs5.2 b hb).trans e
        have DC : cenv.locals ≠ s₂.heap.objs.size := cD _ (.inl rfl)
        have stand5 : Stand W U' cenv (tn ++ capn) ((tds x).map some ++ capd.map some) (T (pre ++ [x])) { s4' with heap := h5 } := by
          have stat : ∀ a o, hS.get? a = some o → h5.get? a = some o := fun a o e => k5 a o (fun q => by have := I2.static a o e; rw [q, hD] at this; cases this) (stand4.static a o e)
          have cne : ∀ y c, cenv.cells.lookup y = some c → c ≠ s₂.heap.objs.size := fun y c hc q => by
            obtain ⟨u, hu⟩ := stand4.cellv y c hc
            obtain ⟨m', e⟩ := hpl4
            exact cell_not_seq hu (q ▸ e) rfl
          refine ⟨stat, stand4.mutU, fun a u => ?_, W.stable stand4.hold (fun a o fa e => k5 a o (fun q => ?_) e) stat, ?_, stand4.locals, stand4.localsS, stand4.cells, stand4.cellsS, fun y c hc => ?_, stand4.inj, fun i y' d h1 h2 => ?_⟩
          · by_cases q : a = s₂.heap.objs.size
            · subst q; obtain ⟨m', e⟩ := hl5; exact ⟨_, e⟩
            · obtain ⟨o, e⟩ := stand4.low a u; exact ⟨o, k5 a o q e⟩
          · subst q; obtain ⟨o', e'⟩ := W.alive I2.hold _ fa; rw [hD] at e'; cases e'
          · obtain ⟨m, hm⟩ := stand4.ns; exact ⟨m, hm.at' fun o e => k5 _ o DC e⟩
          · obtain ⟨u, hu⟩ := stand4.cellv y c hc; exact ⟨u, isCell_at hu fun o e => k5 _ o (cne y c hc) e⟩
          · obtain ⟨u, hu, hr⟩ := stand4.sto i y' d h1 h2
            exact ⟨u, hu.at (fun o e => k5 _ o DC e) (fun c hc o e => k5 _ o (cne _ c hc) e), hr.move fun a o nu _ e => ⟨k5 a o (fun q => nu (.inr q)) e, nu⟩⟩
        refine ⟨post.length + 1, by simp, pre ++ [x], post, ys ++ [y], by rw [hxs]; simp, rfl, ?_, xc4.trans ⟨fun b o hb e => k5 b o (fun q => hb (.inr (.inl q))) e, rfl, Nat.le_refl _, fun _ _ => rfl, fun b => b⟩, stand5.forget noneLess, ?_, ?_⟩
        · have := Wk.frame _ _ h5 hst4' fun b hb o e => k5 b o (fun q => hDfp (q ▸ hb)) e
          simpa using this
        · simpa using hl5
        · rw [List.filter_append]
          have := (hrs4.append (.cons ry .nil)).move (U' := U') (h' := h5) fun a o nu _ e => ⟨k5 a o (fun q => nu (.inr q)) e, nu⟩
          simpa [hpx] using this
  subst hcenv
  subst hs4
  subst hH3
  exact codeAny_compStart_list hloop (Wk.self 0 _ _ _ hst4 hloop)

theorem rep_but {U : Addr → Prop} {h h' : Heap} {C : Addr} {v : Value} {d : D} (r : Rep U h v d) (hn : ∃ m, h.Ns C m) (k : ∀ b o, b ≠ C → h.get? b = some o → h'.get? b = some o) : Rep U h' v d :=
  r.move fun a o nu ⟨ys, m, hd⟩ e => ⟨k a o (fun q => by obtain ⟨_, hm⟩ := hn; exact ns_not_seq hm (q ▸ e) hd) e, nu⟩

theorem EV.comp {α : Type} {elt iter target : Expr} {ifs : List Expr} {scope : Scope} {pos : Pos} (tn capn : List Str) (caps : List Nat) (capd : List D) (xs : List α) (g : α → D) (tds : α → List D) (p : α → Bool) (f : α → D) (T : List α → W.σ)
    (hok : scopeOk scope sc tn capn = true) (hcv : caps.map (vars[·]?) = capn.map some) (hcd : caps.map (ρ[·]?) = capd.map fun d => some (some d))
    (hsz : xs.length ≤ 1000000) (hsrc : EVit prog w n W sc vars ρ st iter (xs.map g) (T []))
    (hAS : ∀ x ∈ xs, AS prog w W (relabelS scope sc) (tn ++ capn) tn target (g x) (tn.map (fun _ => none) ++ capd.map some) ((tds x).map some ++ capd.map some)) (htl : ∀ x ∈ xs, (tds x).length = tn.length)
    (hturn : ∀ pre x post, xs = pre ++ x :: post → ∃ stt, TS prog w n W (relabelS scope sc) (tn ++ capn) ((tds x).map some ++ capd.map some) (T pre) ifs (p x) stt ∧
      (p x = true → EV prog w n W (relabelS scope sc) (tn ++ capn) ((tds x).map some ++ capd.map some) stt elt (f x) (T (pre ++ [x]))) ∧ (p x = false → T (pre ++ [x]) = stt))
    (hfs : ∀ env x, foldedSetIterable iter env x = pure x := by intro _ _; rfl) :
    EV prog w n W sc vars ρ st (.ListComp elt [⟨target, iter, ifs, 0⟩] scope pos) (.list ((xs.filter p).map f)) (T xs) := fun A env U s rm ft I => by
  rw [eval_ListComp]
  refine comp_run tn capn caps capd xs g tds p f T hok hcv hcd hsz hsrc hAS htl hturn hfs rm ft I fun C acc s' hC hn x hold r => ?_
  obtain ⟨m, hm⟩ := hn
  have keep : ∀ {h'}, Heap.SameBut C s'.heap h' → ∀ b o, b ≠ C → s'.heap.get? b = some o → h'.get? b = some o := fun hs b o hb e => (hs.2 b hb).trans e
  refine ⟨m, hm, fun h' hs => ⟨⟨fun b o hb e => keep hs b o (fun q => by rw [q, hC] at e; cases e) (x.keep b o hb e), x.os, x.gsize, x.gens, x.bare⟩, ?_, rep_but r ⟨m, hm⟩ (keep hs)⟩⟩
  refine W.stable hold (fun a o fa e => keep hs a o (fun q => ?_) e) (fun a o e => keep hs a o (fun q => ?_) ((I.step x hold).static a o e))
  · obtain ⟨o', e'⟩ := W.alive I.hold a fa; rw [q, hC] at e'; cases e'
  · have := I.static a o e; rw [q, hC] at this; cases this
end
end
section
inductive Out (σ : Type) where
  | next (ρ : List (Option D)) (st : σ)
  | cont (ρ : List (Option D)) (st : σ)
  | brk (ρ : List (Option D)) (st : σ)
  | ret (d : D) (st : σ)

section
variable {hS : Heap} {prog : Program} {w : World} {n : Nat}
variable {W : Wd hS} {sc : Scope} {vars : List Str} {ρ ρ' : List (Option D)} {st st₁ st₂ st₃ : W.σ}

noncomputable def Out.post (o : Out W.σ) (W' : Wd hS) (e : W' = W) (U : Addr → Prop) (env : Env) (vars : List Str) (f : Flow) (s' : Shared) : Prop := match o with
  | .next ρ st => f = .next ∧ Stand W U env vars ρ st s'
  | .cont ρ st => f = .cont ∧ Stand W U env vars ρ st s'
  | .brk ρ st => f = .brk ∧ Stand W U env vars ρ st s'
  | .ret d st => ∃ v, f = .ret v ∧ W.holds st s' ∧ Rep U s'.heap v d

noncomputable abbrev May (W : Wd hS) (env : Env) (vars : List Str) : Addr → Prop := fun a => W.Mut a ∨ Own env vars a

noncomputable def EX (prog : Program) (w : World) (n : Nat) (W : Wd hS) (sc : Scope) (vars : List Str) (ρ : List (Option D)) (st : W.σ) (ss : List Stmt) (o : Out W.σ) : Prop :=
  ∀ (A : Around) (env : Env) (U : Addr → Prop) (s : Shared), Room A n → Fits sc env → Stand W U env vars ρ st s → (∀ x ∈ vars, Stored env x) →
    wpAny (model prog w) A (execs ss env) (fun f s' => Ext (May W env vars) s s' ∧ o.post W rfl U env vars f s') (fun _ _ => False) s

theorem may_mut {env : Env} {s s' : Shared} (x : Ext W.Mut s s') : Ext (May W env vars) s s' := x.mono fun _ m => .inl m
theorem may_own {env : Env} {s s' : Shared} {xs : List Str} (x : Ext (Own env xs) s s') (h : ∀ y ∈ xs, y ∈ vars) : Ext (May W env vars) s s' := x.mono fun a o => .inr (Own.mono h a o)

theorem EX.nil : EX prog w n W sc vars ρ st [] (.next ρ st) := fun _ _ _ _ _ _ I _ => wpAny_execs_nil ⟨.refl _ _, rfl, I⟩

/-- one statement that goes on, and the rest behind it -/
theorem EX.step {sm : Stmt} {rest : List Stmt} {o : Out W.σ}
    (h : ∀ (A : Around) (env : Env) (U : Addr → Prop) (s : Shared), Room A n → Fits sc env → Stand W U env vars ρ st s → (∀ x ∈ vars, Stored env x) →
      wpAny (model prog w) A (exec sm env) (fun f s' => f = .next ∧ Ext (May W env vars) s s' ∧ Stand W U env vars ρ' st₁ s') (fun _ _ => False) s)
    (hr : EX prog w n W sc vars ρ' st₁ rest o) : EX prog w n W sc vars ρ st (sm :: rest) o := fun A env U s r f I hs => by
  refine wpAny_execs_cons (wpAny_mono (h A env U s r f I hs) (fun fl s' q => ?_) fun _ _ x => x)
  obtain ⟨rfl, x, I'⟩ := q
  exact wpAny_mono (hr A env U s' r f I' hs) (fun fl s'' q => ⟨x.trans q.1, q.2⟩) fun _ _ x => x

theorem EX.ret {e : Expr} {pos : Pos} {rest : List Stmt} {d : D} (h : EV prog w n W sc vars ρ st e d st₁) : EX prog w n W sc vars ρ st (.Return (some e) pos :: rest) (.ret d st₁) := fun A env U s r f I hs =>
  wpAny_execs_cons (wpAny_Return_some (wpAny_mono (h A env U s r f I) (fun v s' q => ⟨may_mut q.1, v, rfl, q.2.1, q.2.2⟩) fun _ _ x => x))

theorem EX.continue_ {pos : Pos} {rest : List Stmt} : EX prog w n W sc vars ρ st (.Continue pos :: rest) (.cont ρ st) := fun A env U s r f I hs => by
  refine wpAny_execs_cons ?_
  show wpAny _ _ (standAt pos >>= fun _ => pure Flow.cont) _ _ s
  exact wpAny_bind (wpAny_standAt (wpAny_pure ⟨.refl _ _, rfl, I⟩))

theorem EX.assign (i : Nat) {x : Str} {e : Expr} {p pos : Pos} {rest : List Stmt} {d : D} {o : Out W.σ} (nd : vars.Nodup) (hx : vars[i]? = some x) (h : EV prog w n W sc vars ρ st e d st₁)
    (hr : EX prog w n W sc vars (ρ.set i (some d)) st₁ rest o) (hsw : ∀ env, Fits sc env → swapsWith e (some (.Name x p)) pos.line env = pure false := by intro _ _; rfl) :
    EX prog w n W sc vars ρ st (.Assign [.Name x p] e pos :: rest) o := .step (fun A env U s r f I hs => by
  refine wpAny_Assign_Name (wpAny_mono (h A env U s r f I) (fun v s1 q => ?_) fun _ _ x => x) (hsw env f)
  have hm := List.mem_of_getElem? hx
  exact wpAny_mono ((I.step q.1 q.2.1).store f nd hx (hs x hm) q.2.2) (fun _ s' q' => ⟨rfl, (may_mut q.1).trans (may_own q'.1 (by intro y hy; simp at hy; subst hy; exact hm)), q'.2⟩) fun _ _ x => x) hr

theorem EX.assignT {xs : List Str} {es : List Expr} {k : Nat} {p : Pos} {e : Expr} {pos : Pos} {rest : List Stmt} {d : D} {o : Out W.σ} (h : EV prog w n W sc vars ρ st e d st₁)
    (ha : AS prog w W sc vars xs (.Tuple es k p) d ρ ρ') (hxs : ∀ x ∈ xs, x ∈ vars) (hr : EX prog w n W sc vars ρ' st₁ rest o)
    (hsw : ∀ env, swapsWithSole [.Tuple es k p] e pos.line env = pure false := by intro _; rfl) (hw : ∀ env, swappedStores [.Tuple es k p] e env = pure none := by intro _; rfl) :
    EX prog w n W sc vars ρ st (.Assign [.Tuple es k p] e pos :: rest) o := .step (fun A env U s r f I hs => by
  refine Assign_Tuple (wpAny_mono (h A env U s r f I) (fun v s1 q => ?_) fun _ _ x => x) (hsw env) (hw env)
  exact wpAny_mono (ha r.handled f (I.step q.1 q.2.1) (fun x hx => hs x (hxs x hx)) q.2.2) (fun _ s' q' => ⟨rfl, (may_mut q.1).trans (may_own q'.1 hxs), q'.2⟩) fun _ _ x => x) hr

theorem EX.aug (i : Nat) {x : Str} {op : Operator} {e : Expr} {p pos : Pos} {rest : List Stmt} {d0 d d' : D} {o : Out W.σ} (nd : vars.Nodup) (hx : vars[i]? = some x) (hd : ρ[i]? = some (some d0)) (h : EV prog w n W sc vars ρ st e d st₁)
    (ho : Op hS prog w n (fun vs => match vs with | [a, b] => inplaceOp op a b | _ => pure .none) [d0, d] d') (hr : EX prog w n W sc vars (ρ.set i (some d')) st₁ rest o) :
    EX prog w n W sc vars ρ st (.AugAssign (.Name x p) op e pos :: rest) o := .step (fun A env U s r f I hs => by
  have hm := List.mem_of_getElem? hx
  have hk : env.scope.kind = .function := by rw [f.scope]; exact f.kind
  refine wpAny_AugAssign_Name ?_
  obtain ⟨v0, hv, hr0⟩ := I.sto i x d0 hx hd
  have cont : wpAny (model prog w) A (eval e env) (fun v s₂ => wpAny (model prog w) A (inplaceOp op v0 v) (fun r s₃ => wpAny (model prog w) A (storeName env x r) (fun _ s' => Flow.next = .next ∧ Ext (May W env vars) s s' ∧ Stand W U env vars (ρ.set i (some d')) st₁ s') (fun _ _ => False) s₃) (fun _ _ => False) s₂) (fun _ _ => False) s := by
    refine wpAny_mono (h A env U s r f I) (fun v s1 q => ?_) fun _ _ x => x
    have I1 := I.step q.1 q.2.1
    refine wpAny_mono (ho A U s1 [v0, v] r I1.static I1.low (.cons (hr0.ext q.1 I.mutU) (.cons q.2.2 .nil))) (fun v' s2 q2 => ?_) fun _ _ x => x
    exact wpAny_mono ((I1.step0 q2.1).store f nd hx (hs x hm) q2.2) (fun _ s' q' => ⟨rfl, ((may_mut q.1).trans q2.1.any).trans (may_own q'.1 (by intro y hy; simp at hy; subst hy; exact hm)), q'.2⟩) fun _ _ x => x
  rcases hv with ⟨hl, m, hn, hmm⟩ | ⟨hl | ⟨hl, hcd⟩, c, hc, hv⟩
  · exact wpAny_loadName_local hk hl hn hmm cont
  · exact wpAny_loadName_cell hk hl hc hv cont
  · exact wpAny_loadName_free hk hl hc hv cont hcd) hr

/-- what comes behind a block -/
noncomputable def Then (prog : Program) (w : World) (n : Nat) (W : Wd hS) (sc : Scope) (vars : List Str) (o1 : Out W.σ) (rest : List Stmt) (o : Out W.σ) : Prop := match o1 with
  | .next ρ st => EX prog w n W sc vars ρ st rest o
  | .cont ρ st => o = .cont ρ st
  | .brk ρ st => o = .brk ρ st
  | .ret d st => o = .ret d st

theorem EX.then {ss rest : List Stmt} {sm : Stmt} {o1 o : Out W.σ} {A : Around} {env : Env} {U : Addr → Prop} {s s1 : Shared} (h : EX prog w n W sc vars ρ st ss o1) (t : Then prog w n W sc vars o1 rest o) (r : Room A n) (f : Fits sc env)
    (I : Stand W U env vars ρ st s1) (hs : ∀ x ∈ vars, Stored env x) (x1 : Ext (May W env vars) s s1) :
    wpAny (model prog w) A (execs ss env) (fun fl s' => match fl with | .next => wpAny (model prog w) A (execs rest env) (fun f s' => Ext (May W env vars) s s' ∧ o.post W rfl U env vars f s') (fun _ _ => False) s' | fl => (Ext (May W env vars) s s' ∧ o.post W rfl U env vars fl s')) (fun _ _ => False) s1 := by
  refine wpAny_mono (h A env U s1 r f I hs) (fun fl s2 q => ?_) fun _ _ x => x
  obtain ⟨x2, p⟩ := q
  cases o1 with
  | next ρ1 st1 =>
    obtain ⟨rfl, I2⟩ := p
    exact wpAny_mono (t A env U s2 r f I2 hs) (fun fl s3 q => ⟨(x1.trans x2).trans q.1, q.2⟩) fun _ _ x => x
  | cont ρ1 st1 =>
    obtain ⟨rfl, I2⟩ := p
    have : o = .cont ρ1 st1 := t
    subst this
    exact ⟨x1.trans x2, rfl, I2⟩
  | brk ρ1 st1 =>
    obtain ⟨rfl, I2⟩ := p
    have : o = .brk ρ1 st1 := t
    subst this
    exact ⟨x1.trans x2, rfl, I2⟩
  | ret d st1 =>
    obtain ⟨v, rfl, I2⟩ := p
    have : o = .ret d st1 := t
    subst this
    exact ⟨x1.trans x2, v, rfl, I2⟩

theorem EX.ite {t : Expr} {body orelse rest : List Stmt} {pos : Pos} {b : Bool} {o1 o2 o : Out W.σ} (ht : ET prog w n W sc vars ρ st t b st₁)
    (h1 : b = true → EX prog w n W sc vars ρ st₁ body o1 ∧ Then prog w n W sc vars o1 rest o) (h2 : b = false → EX prog w n W sc vars ρ st₁ orelse o2 ∧ Then prog w n W sc vars o2 rest o) :
    EX prog w n W sc vars ρ st (.If t body orelse pos :: rest) o := fun A env U s r f I hs => by
  refine wpAny_execs_cons (wpAny_If (wpAny_mono (ht A env U s r f I) (fun c s1 q => ?_) fun _ _ x => x))
  obtain ⟨x1, hold, rfl⟩ := q
  have I1 := I.step x1 hold
  cases c with
  | true => exact EX.then (sm := .Pass pos) (h1 rfl).1 (h1 rfl).2 r f I1 hs (may_mut x1)
  | false => exact EX.then (sm := .Pass pos) (h2 rfl).1 (h2 rfl).2 r f I1 hs (may_mut x1)

theorem EX.eq {ss : List Stmt} {o o' : Out W.σ} (h : EX prog w n W sc vars ρ st ss o) (e : o = o') : EX prog w n W sc vars ρ st ss o' := e ▸ h
theorem EX.weak {ss : List Stmt} {o : Out W.σ} (h : EX prog w n W sc vars ρ' st ss o) (e : ∀ (i : Nat) (d : D), ρ'[i]? = some (some d) → ρ[i]? = some (some d)) : EX prog w n W sc vars ρ st ss o := fun A env U s r f I hs => h A env U s r f (I.forget e) hs

theorem Stand.drop {U : Addr → Prop} {env : Env} {s : Shared} {h' : Heap} {C : Addr} (I : Stand W U env vars ρ st s) (hn : ∃ m, s.heap.Ns C m) (keep : ∀ b o, b ≠ C → s.heap.get? b = some o → h'.get? b = some o)
    (hf : ¬ W.foot C) (hst : hS.get? C = none) (hu : ¬ U C) (lC : env.locals ≠ C) (cC : ∀ z c, env.cells.lookup z = some c → c ≠ C) : Stand W U env vars ρ st { s with heap := h' } := by
  have stat : ∀ a o, hS.get? a = some o → h'.get? a = some o := fun a o e => keep a o (fun q => by rw [q, hst] at e; cases e) (I.static a o e)
  refine ⟨stat, I.mutU, fun a u => ?_, W.stable I.hold (fun a o fa e => keep a o (fun q => hf (q ▸ fa)) e) stat, ?_, I.locals, I.localsS, I.cells, I.cellsS, fun y c hc => ?_, I.inj, fun i y d h1 h2 => ?_⟩
  · obtain ⟨o, e⟩ := I.low a u; exact ⟨o, keep a o (fun q => hu (q ▸ u)) e⟩
  · obtain ⟨m, hm⟩ := I.ns; exact ⟨m, hm.at' fun o e => keep _ o lC e⟩
  · obtain ⟨u, hv⟩ := I.cellv y c hc; exact ⟨u, isCell_at hv fun o e => keep _ o (cC y c hc) e⟩
  · obtain ⟨u, hv, hr⟩ := I.sto i y d h1 h2
    exact ⟨u, hv.at (fun o e => keep _ o lC e) (fun c hc o e => keep _ o (cC y c hc) e), rep_but hr hn keep⟩

/-- a comprehension that the model stores at its very end -/
theorem EX.assignComp {α : Type} (i : Nat) {y : Str} {py spos : Pos} {rest : List Stmt} {o : Out W.σ} {elt iter target : Expr} {ifs : List Expr} {scope : Scope} {pos : Pos} (tn capn : List Str) (caps : List Nat) (capd : List D) (xs : List α) (g : α → D) (tds : α → List D) (p : α → Bool) (f : α → D) (T : List α → W.σ)
    (nd : vars.Nodup) (hy : vars[i]? = some y)
    (hsw : ∀ env, Fits sc env → swapsWith (.ListComp elt [⟨target, iter, ifs, 0⟩] scope pos) (some (.Name y py)) spos.line env = pure true)
    (hok : scopeOk scope sc tn capn = true) (hcv : caps.map (vars[·]?) = capn.map some) (hcd : caps.map (ρ[·]?) = capd.map fun d => some (some d))
    (hsz : xs.length ≤ 1000000) (hsrc : EVit prog w n W sc vars ρ st iter (xs.map g) (T []))
    (hAS : ∀ x ∈ xs, AS prog w W (relabelS scope sc) (tn ++ capn) tn target (g x) (tn.map (fun _ => none) ++ capd.map some) ((tds x).map some ++ capd.map some)) (htl : ∀ x ∈ xs, (tds x).length = tn.length)
    (hturn : ∀ pre x post, xs = pre ++ x :: post → ∃ stt, TS prog w n W (relabelS scope sc) (tn ++ capn) ((tds x).map some ++ capd.map some) (T pre) ifs (p x) stt ∧
      (p x = true → EV prog w n W (relabelS scope sc) (tn ++ capn) ((tds x).map some ++ capd.map some) stt elt (f x) (T (pre ++ [x]))) ∧ (p x = false → T (pre ++ [x]) = stt))
    (hr : EX prog w n W sc vars (ρ.set i (some (.list ((xs.filter p).map f)))) (T xs) rest o)
    (hfs : ∀ env x, foldedSetIterable iter env x = pure x := by intro _ _; rfl) :
    EX prog w n W sc vars ρ st (.Assign [.Name y py] (.ListComp elt [⟨target, iter, ifs, 0⟩] scope pos) spos :: rest) o := .step (fun A env U s rm ft I hs => by
  have hm := List.mem_of_getElem? hy
  rw [exec_Assign_Name_used _ _ _ _ (hsw env ft)]
  refine wpAny_bind (wpAny_standAt (wpAny_bind ?_))
  show wpAny _ A (do let _ ← comprehension (.ListComp elt [⟨target, iter, ifs, 0⟩] scope pos) scope env _ (newList []) false (eval iter env) (some (PySem.assign (.Name y py) env))) _ _ s
  refine wpAny_bind (wpAny_mono (comp_run (use := some (PySem.assign (.Name y py) env)) (Q := fun _ s' => Ext (May W env vars) s s' ∧ Stand W U env vars (ρ.set i (some (.list ((xs.filter p).map f)))) (T xs) s') tn capn caps capd xs g tds p f T hok hcv hcd hsz hsrc hAS htl hturn hfs rm ft I fun C acc s' hC hn x hold r => ?_)
    (fun _ s' q => wpAny_pure (wpAny_pure ⟨rfl, q.1, q.2⟩)) fun _ _ x => x)
  have I' := I.step x hold
  show wpAny _ A (PySem.assign (.Name y py) env acc) _ _ s'
  refine wpAny_assign_Name (wpAny_mono (I'.store ft nd hy (hs y hm) r) (fun _ s'' q => ?_) fun _ _ x => x)
  obtain ⟨xo, I''⟩ := q
  obtain ⟨m, hm'⟩ := hn
  have lC : env.locals ≠ C := fun e => by obtain ⟨_, o, _, _, e', _⟩ := I.ns; rw [e, hC] at e'; cases e'
  have cC : ∀ z c, env.cells.lookup z = some c → c ≠ C := fun z c hc e => by obtain ⟨_, o, e', _⟩ := I.cellv z c hc; rw [e, hC] at e'; cases e'
  have oC : ¬ Own env [y] C := fun q => by
    rcases q with q | ⟨z, _, q⟩
    · exact lC q.symm
    · exact cC z C q rfl
  refine ⟨m, hm'.at' fun o e => xo.keep _ o oC e, fun h' hs' => ?_⟩
  have keep : ∀ b o, b ≠ C → s''.heap.get? b = some o → h'.get? b = some o := fun b o hb e => (hs'.2 b hb).trans e
  have x1 := (may_mut (vars := vars) (env := env) x).trans (may_own xo (by intro z hz; simp at hz; subst hz; exact hm))
  refine ⟨⟨fun b o nb e => keep b o (fun q => by rw [q, hC] at e; cases e) (x1.keep b o nb e), x1.os, x1.gsize, x1.gens, x1.bare⟩, ?_⟩
  refine I''.drop ⟨m, hm'.at' fun o e => xo.keep _ o oC e⟩ keep (fun q => ?_) ?_ (fun q => ?_) lC cC
  · obtain ⟨o', e'⟩ := W.alive I.hold C q; rw [hC] at e'; cases e'
  · cases e : hS.get? C with
    | none => rfl
    | some o => have := I.static C o e; rw [hC] at this; cases this
  · obtain ⟨o', e'⟩ := I.low C q; rw [hC] at e'; cases e') hr
end
end
section
noncomputable def loopF {α β γ : Type} (step : β → α → β ⊕ γ) : β → List α → β ⊕ γ
  | b, [] => .inl b
  | b, x :: r => match step b x with
    | .inl b' => loopF step b' r
    | .inr c => .inr c

section
variable {hS : Heap} {prog : Program} {w : World} {n : Nat}
variable {W : Wd hS} {sc : Scope} {vars : List Str} {ρ ρ' : List (Option D)} {st st₁ st₂ st₃ : W.σ}

theorem Stand.shrink {U U' : Addr → Prop} {env : Env} {s : Shared} (I : Stand W U' env vars ρ st s) (h : ∀ a, U a → U' a) (hm : ∀ a, W.Mut a → U a) : Stand W U env vars ρ st s :=
  ⟨I.static, hm, fun a u => I.low a (h a u), I.hold, I.ns, I.locals, I.localsS, I.cells, I.cellsS, I.cellv, I.inj, fun i y d k1 k2 => by
    obtain ⟨v, hv, hr⟩ := I.sto i y d k1 k2
    exact ⟨v, hv, hr.move fun a o nu _ e => ⟨e, fun u => nu (h a u)⟩⟩⟩

noncomputable def Goes (o : Out W.σ) (ρ' : List (Option D)) (st' : W.σ) : Prop := o = .next ρ' st' ∨ o = .cont ρ' st'

theorem EX.for_ {α β : Type} {target iter : Expr} {body rest : List Stmt} {pos : Pos} {o : Out W.σ} (tx : List Str) (xs : List α) (g : α → D) (ρof : β → List (Option D)) (sof : β → W.σ) (ρ1 : β → α → List (Option D)) (step : β → α → β ⊕ (D × W.σ)) (b₀ : β) (Ok : β → List α → Prop)
    (hsrc : EVit prog w n W sc vars ρ st iter (xs.map g) (sof b₀)) (hρ : ∀ (i : Nat) (d : D), (ρof b₀)[i]? = some (some d) → ρ[i]? = some (some d)) (h0 : Ok b₀ xs) (htx : ∀ x ∈ tx, x ∈ vars)
    (hturn : ∀ b x post, Ok b (x :: post) → AS prog w W sc vars tx target (g x) (ρof b) (ρ1 b x) ∧ (∀ b', step b x = .inl b' → Ok b' post ∧ ∃ ob ρ', EX prog w n W sc vars (ρ1 b x) (sof b) body ob ∧ Goes ob ρ' (sof b') ∧ (∀ (i : Nat) (d : D), (ρof b')[i]? = some (some d) → ρ'[i]? = some (some d))) ∧
      (∀ r, step b x = .inr r → EX prog w n W sc vars (ρ1 b x) (sof b) body (.ret r.1 r.2)))
    (hend : ∀ b, loopF step b₀ xs = .inl b → EX prog w n W sc vars (ρof b) (sof b) rest o) (hret : ∀ r, loopF step b₀ xs = .inr r → o = .ret r.1 r.2)
    (hfs : ∀ env x, foldedSetIterable iter env x = pure x := by intro _ _; rfl) :
    EX prog w n W sc vars ρ st (.For target iter body [] pos :: rest) o := fun A env U s rm ft I hs => by
  refine wpAny_execs_cons (wpAny_For (hs := hfs env) (wpAny_mono (hsrc A env U s rm ft I) (fun xv s1 h1 => wpAny_mono h1 (fun it s₂ h2 => ?_) fun _ _ x => x.elim) fun _ _ x => x.elim))
  obtain ⟨x2, hold2, Iad, fp, wr, P, St, rfl, Wk, st0, hfp, hwr, hlet, hwa, hrep⟩ := h2
  have I2 := I.grow x2 hold2 (fun a => a ∈ wr) hwr (fun a ha => hwa 0 _ st0 a ha)
  let U' : Addr → Prop := fun a => U a ∨ a ∈ wr
  let Chg : Addr → Prop := fun b => May W env vars b ∨ b ∈ wr
  have lwr : ∀ b, Own env vars b → b ∉ wr := fun b o hm => by
    have := hwr b hm
    rcases o with rfl | ⟨y, _, hc⟩
    · obtain ⟨_, o, _, _, e, _⟩ := I.ns; rw [this] at e; cases e
    · obtain ⟨_, o, e, _⟩ := I.cellv y b hc; rw [this] at e; cases e
  have cwr : ∀ y c, env.cells.lookup y = some c → c ∉ wr := fun y c hc hm => by
    have := hwr c hm
    obtain ⟨_, o, e, _⟩ := I.cellv y c hc; rw [this] at e; cases e
  -- the iterator stands apart from the frame
  have fpn : ∀ b' ∈ fp, ¬ May W env vars b' := fun b' hb m => by
    obtain ⟨⟨o, e, h1, h2⟩, nm⟩ := hfp b' hb
    rcases m with m | rfl | ⟨y, _, hc⟩
    · exact nm m
    · obtain ⟨_, o', es, ep, e', hd, _⟩ := I2.ns; rw [e] at e'; cases e'; exact h1 _ _ hd
    · obtain ⟨v, o', e', hd⟩ := I2.cellv y b' hc; rw [e] at e'; cases e'; exact h2 _ hd
  have finish : ∀ {s' : Shared} {fl : Flow} {o' : Out W.σ}, Ext Chg s₂ s' → o'.post W rfl U' env vars fl s' → Ext (May W env vars) s s' ∧ o'.post W rfl U env vars fl s' := fun {s'} {fl} {o'} xc p => by
    refine ⟨⟨fun b ob nb e => xc.keep b ob ?_ (x2.keep b ob (fun m => nb (.inl m)) e), xc.os.trans x2.os, Nat.le_trans x2.gsize xc.gsize, fun q hq => (xc.gens q (Nat.lt_of_lt_of_le hq x2.gsize)).trans (x2.gens q hq), fun q => xc.bare (x2.bare q)⟩, ?_⟩
    · rintro (m | m)
      · exact nb m
      · rw [hwr b m] at e; cases e
    · cases o' with
      | next => exact ⟨p.1, p.2.shrink (fun _ => .inl) I.mutU⟩
      | cont => exact ⟨p.1, p.2.shrink (fun _ => .inl) I.mutU⟩
      | brk => exact ⟨p.1, p.2.shrink (fun _ => .inl) I.mutU⟩
      | ret => obtain ⟨v, e, h, r⟩ := p; exact ⟨v, e, h, r.move fun a _ nu _ e => ⟨e, fun u => nu (.inl u)⟩⟩
  let J : Nat → Shared → Prop := fun k s' => ∃ b pre post, xs = pre ++ post ∧ k = post.length + 1 ∧ loopF step b₀ xs = loopF step b post ∧ Ok b post ∧ St pre.length s'.heap ∧ Ext Chg s₂ s' ∧ Stand W U' env vars (ρof b) (sof b) s'
  refine codeAny_forLoop_any J ?_ (xs.length + 1) ⟨b₀, [], xs, rfl, rfl, rfl, h0, st0, .refl _ _, I2.forget hρ⟩
  rintro k s' ⟨b, pre, post, hxs, rfl, hlf, hok, hst, xc, cI⟩
  cases post with
  | nil =>
    have hpre : pre = xs := by rw [hxs]; simp
    have hlen : (xs.map g).length = pre.length := by rw [hpre]; simp
    refine Wk.done s' _ _ (by rw [hlen]; exact hst) fun h' tk hk => ?_
    refine wpAny_execs_nil ?_
    have xk : Ext Chg s' { s' with heap := h', toks := tk } := ⟨fun b o hb e => hk b o (fun m => hb (.inr m)) e, rfl, Nat.le_refl _, fun _ _ => rfl, fun b => b⟩
    have stat : ∀ a o, hS.get? a = some o → h'.get? a = some o := fun a o e => hk a o (fun hm => by have := I.static a o e; rw [hwr a hm] at this; cases this) (cI.static a o e)
    have nomut : ∀ a, W.foot a → a ∉ wr := fun a m hm => by obtain ⟨o', e'⟩ := W.alive I.hold a m; rw [hwr a hm] at e'; cases e'
    have cI1 : Stand W U env vars (ρof b) (sof b) { s' with heap := h', toks := tk } := by
      have sh := cI.shrink (U := U) (fun _ => .inl) I.mutU
      refine ⟨stat, I.mutU, fun a u => ?_, W.stable cI.hold (fun a o fa e => hk a o (nomut a fa) e) stat, ?_, cI.locals, cI.localsS, cI.cells, cI.cellsS, fun y c hc => ?_, cI.inj, fun i y d h1 h2 => ?_⟩
      · obtain ⟨o, e⟩ := cI.low a (.inl u)
        by_cases hm : a ∈ wr
        · obtain ⟨o', e'⟩ := I.low a u; rw [hwr a hm] at e'; cases e'
        · exact ⟨o, hk a o hm e⟩
      · obtain ⟨m, hm⟩ := cI.ns; exact ⟨m, hm.at' fun o e => hk _ o (lwr _ (.inl rfl)) e⟩
      · obtain ⟨u, hu⟩ := cI.cellv y c hc; exact ⟨u, isCell_at hu fun o e => hk _ o (cwr y c hc) e⟩
      · obtain ⟨u, hu, hr⟩ := cI.sto i y d h1 h2
        exact ⟨u, hu.at (fun o e => hk _ o (lwr _ (.inl rfl)) e) (fun c hc o e => hk _ o (cwr _ c hc) e), hr.move fun a o nu _ e => ⟨hk a o (fun m => nu (.inr m)) e, fun u => nu (.inl u)⟩⟩
    have x3 := (finish (o' := .next (ρof b) (sof b)) (fl := .next) (s' := s') xc ⟨rfl, cI⟩).1
    have x4 : Ext (May W env vars) s { s' with heap := h', toks := tk } := ⟨fun b o hb e => hk b o (fun m => by rw [hwr b m] at e; cases e) (x3.keep b o hb e), x3.os, x3.gsize, x3.gens, x3.bare⟩
    refine wpAny_mono (hend b hlf A env U _ rm ft cI1 hs) (fun fl s'' q => ⟨x4.trans q.1, q.2⟩) fun _ _ x => x
  | cons x post =>
    have hi : pre.length < (xs.map g).length := by rw [hxs]; simp
    refine Wk.item pre.length s' _ _ hi hst fun v h' tk hP hst' hk => ?_
    obtain ⟨d, hd, hrv⟩ := hrep _ _ hi hP
    have hd' : d = g x := by
      rw [hxs] at hd
      simp at hd
      exact hd.symm
    subst hd'
    have xk : Ext Chg s' { s' with heap := h', toks := tk } := ⟨fun b o hb e => hk b o (fun m => hb (.inr m)) e, rfl, Nat.le_refl _, fun _ _ => rfl, fun b => b⟩
    have stat : ∀ a o, hS.get? a = some o → h'.get? a = some o := fun a o e => hk a o (fun hm => by have := I.static a o e; rw [hwr a hm] at this; cases this) (cI.static a o e)
    have nomut : ∀ a, W.foot a → a ∉ wr := fun a m hm => by obtain ⟨o', e'⟩ := W.alive I.hold a m; rw [hwr a hm] at e'; cases e'
    have stand1 : Stand W U' env vars (ρof b) (sof b) { s' with heap := h', toks := tk } := by
      refine ⟨stat, cI.mutU, fun a u => ?_, W.stable cI.hold (fun a o fa e => hk a o (nomut a fa) e) stat, ?_, cI.locals, cI.localsS, cI.cells, cI.cellsS, fun y c hc => ?_, cI.inj, fun i y d h1 h2 => ?_⟩
      · by_cases hm : a ∈ wr
        · exact hwa _ _ hst' a hm
        · obtain ⟨o, e⟩ := cI.low a u; exact ⟨o, hk a o hm e⟩
      · obtain ⟨m, hm⟩ := cI.ns; exact ⟨m, hm.at' fun o e => hk _ o (lwr _ (.inl rfl)) e⟩
      · obtain ⟨u, hu⟩ := cI.cellv y c hc; exact ⟨u, isCell_at hu fun o e => hk _ o (cwr y c hc) e⟩
      · obtain ⟨u, hu, hr⟩ := cI.sto i y d h1 h2
        exact ⟨u, hu.at (fun o e => hk _ o (lwr _ (.inl rfl)) e) (fun c hc o e => hk _ o (cwr _ c hc) e), hr.move fun a o nu _ e => ⟨hk a o (fun m => nu (.inr m)) e, nu⟩⟩
    have xc1 := xc.trans xk
    have hrv1 : Rep U' h' v (g x) := hrv.move fun a o nu ⟨ys, m', hdd⟩ e => ⟨xc1.keep a o (by
      rintro ((m | m) | m)
      · exact nu (.inl (I.mutU a m))
      · rcases m with rfl | ⟨y, _, hc⟩
        · obtain ⟨m₀, hm⟩ := I2.ns; exact ns_not_seq hm e hdd
        · obtain ⟨u, hu⟩ := I2.cellv y a hc; exact cell_not_seq hu e hdd
      · exact nu (.inr m)) e, nu⟩
    obtain ⟨hA, hgo, hre⟩ := hturn b x post hok
    refine hlet _ _ _ _ _ hst' ?_ |> fun z => wpAny_mono z (fun _ _ q => q) fun _ _ f => f.elim
    refine wpAny_mono (hA (v := v) rm.handled ft stand1 (fun y hy => hs y (htx y hy)) hrv1) (fun _ s2 q2 => ?_) fun _ _ f => f.elim
    obtain ⟨xa, stand2⟩ := q2
    have xc2 : Ext Chg s₂ s2 := xc1.trans (xa.mono fun a o => .inl (.inr (Own.mono htx a o)))
    have hst2 : St (pre.length + 1) s2.heap := Wk.frame _ _ _ hst' fun b hb o e => xa.keep b o (fun q => fpn b hb (.inr (Own.mono htx b q))) e
    cases hsp : step b x with
    | inl b' =>
      obtain ⟨hok', ob, ρ', hex, hg, hw⟩ := hgo b' hsp
      refine wpAny_mono (hex A env U' s2 rm ft stand2 hs) (fun fl s3 q3 => ?_) fun _ _ f => f.elim
      obtain ⟨xb, pb⟩ := q3
      have nextJ : Stand W U' env vars ρ' (sof b') s3 → ∃ m, m < (x :: post).length + 1 ∧ J m s3 := fun I3 =>
        ⟨post.length + 1, by simp, b', pre ++ [x], post, by rw [hxs]; simp, rfl, by rw [hlf, loopF, hsp], hok',
          by have := Wk.frame _ _ _ hst2 (fun b hb o e => xb.keep b o (fpn b hb) e); simpa using this, xc2.trans (xb.mono fun a m => .inl m), I3.forget hw⟩
      rcases hg with rfl | rfl
      · obtain ⟨rfl, I3⟩ := pb; exact nextJ I3
      · obtain ⟨rfl, I3⟩ := pb; exact nextJ I3
    | inr r =>
      refine wpAny_mono (hre r hsp A env U' s2 rm ft stand2 hs) (fun fl s3 q3 => ?_) fun _ _ f => f.elim
      obtain ⟨xb, v', rfl, hh, hr⟩ := q3
      have ho : o = .ret r.1 r.2 := hret r (by rw [hlf, loopF, hsp])
      rw [ho]
      exact finish (o' := .ret r.1 r.2) (fl := .ret v') (xc2.trans (xb.mono fun a m => .inl m)) ⟨v', rfl, hh, hr⟩
end
end
section
section
variable {hS : Heap} {prog : Program} {w : World} {n : Nat}
variable {W : Wd hS} {sc : Scope} {vars : List Str} {ρ ρ' : List (Option D)} {st st₁ st₂ st₃ : W.σ}

/-- what an operation does in a world -/
noncomputable def OpW (W : Wd hS) (prog : Program) (w : World) (n : Nat) (st : W.σ) (t : List Value → Sem Value) (ds : List D) (d : D) (st' : W.σ) : Prop :=
  ∀ (A : Around) (U : Addr → Prop) (s : Shared) (vs : List Value), Room A n → (∀ a o, hS.get? a = some o → s.heap.get? a = some o) → (∀ a, W.Mut a → U a) → (∀ a, U a → ∃ o, s.heap.get? a = some o) → W.holds st s → Reps U s.heap vs ds →
    wpAny (model prog w) A (t vs) (fun v s' => Ext W.Mut s s' ∧ W.holds st' s' ∧ Rep U s'.heap v d) (fun _ _ => False) s

theorem OpW.pure {t : List Value → Sem Value} {ds : List D} {d : D} (h : OpW (Wd.still hS) prog w n () t ds d ()) : Op hS prog w n t ds d := fun A U s vs r st low q =>
  wpAny_mono (h A U s vs r st (fun _ f => f.elim) low trivial q) (fun _ _ z => ⟨z.1, z.2.2⟩) fun _ _ x => x
theorem Op.lift {t : List Value → Sem Value} {ds : List D} {d : D} (h : Op hS prog w n t ds d) : OpW W prog w n st t ds d st := fun A U s vs r st' _ low hold q =>
  wpAny_mono (h A U s vs r st' low q) (fun _ _ z => ⟨z.1.any, W.still0 hold st' z.1, z.2⟩) fun _ _ x => x
theorem Op.le {m : Nat} {t : List Value → Sem Value} {ds : List D} {d : D} (h : Op hS prog w m t ds d) (hm : m ≤ n) : Op hS prog w n t ds d := fun A U s vs r st low q => h A U s vs (r.le hm) st low q
theorem OpW.le {m : Nat} {t : List Value → Sem Value} {ds : List D} {d : D} (h : OpW W prog w m st t ds d st₁) (hm : m ≤ n) : OpW W prog w n st t ds d st₁ := fun A U s vs r st mu low q => h A U s vs (r.le hm) st mu low q

theorem EV.callW {x : Str} {p pos : Pos} {args : List Expr} {f : Value} {ds : List D} {d : D} (hf : EV prog w n W sc vars ρ st (.Name x p) (.raw f) st₁) (c : Callee hS f)
    (q : EVs prog w n W sc vars ρ st₁ args ds st₂) (ho : OpW W prog w n st₂ (Call f) ds d st₃) : EV prog w n W sc vars ρ st (.Call (.Name x p) args [] pos) d st₃ := fun A env U s r ft I => by
  refine Call_ (wpAny_mono (hf A env U s r ft I) (fun v s1 q1 => ?_) fun _ _ x => x)
  have e := q1.2.2.of_raw
  subst e
  refine callWith_of c q r ft (I.step q1.1 q1.2.1) fun vs s2 x2 I2 r2 => ?_
  refine wpAny_mono (ho A U s2 vs r I2.static I2.mutU I2.low I2.hold r2) (fun v' s3 q3 => ?_) fun _ _ x => x
  exact ⟨(q1.1.trans x2).trans q3.1, q3.2.1, q3.2.2⟩

theorem bindL_of {k : Str → Option NameKind} {x : Str} (hk : k x = some .local) : ∀ (bs : List (Str × Value)) (m : Str → Option Value), (bs.map (·.1)).Nodup → bindL k bs m x = (bs.lookup x).or (m x)
  | [], m, _ => rfl
  | (y, v) :: r, m, nd => by
    rw [List.map_cons, List.nodup_cons] at nd
    unfold bindL
    rw [bindL_of hk r _ nd.2, List.lookup_cons]
    by_cases hxy : x = y
    · subst hxy
      rw [if_pos hk, beq_self_eq_true]
      have : r.lookup x = none := lookup_none_of fun c hc => nd.1 (List.mem_map.mpr ⟨_, hc, rfl⟩)
      rw [this]; simp
    · rw [beq_eq_false_iff_ne.mpr hxy]
      congr 1
      split
      · show (if x = y then some v else m x) = m x
        rw [if_neg hxy]
      · rfl
theorem bindC_of {k : Str → Option NameKind} {x : Str} (hk : k x ≠ some .local) : ∀ (bs : List (Str × Value)) (m : Str → Option Value), (bs.map (·.1)).Nodup → bindC k bs m x = (bs.lookup x).or (m x)
  | [], m, _ => rfl
  | (y, v) :: r, m, nd => by
    rw [List.map_cons, List.nodup_cons] at nd
    unfold bindC
    rw [bindC_of hk r _ nd.2, List.lookup_cons]
    by_cases hxy : x = y
    · subst hxy
      rw [if_neg hk, beq_self_eq_true]
      have : r.lookup x = none := lookup_none_of fun c hc => nd.1 (List.mem_map.mpr ⟨_, hc, rfl⟩)
      rw [this]; simp
    · rw [beq_eq_false_iff_ne.mpr hxy]
      congr 1
      split
      · rfl
      · show (if x = y then some v else m x) = m x
        rw [if_neg hxy]

noncomputable def fnOk (sc : Scope) (vars ps : List Str) : Bool :=
  decide (sc.names.map (·.1)).Nodup && vars.all (fun x => sc.names.lookup x == some .local || sc.names.lookup x == some .cell) && decide (ps = vars.take ps.length) && decide vars.Nodup && sc.kind == .function && !sc.isCoroutine && !sc.isGenerator

structure FnAt (hS : Heap) (a : Addr) (sc : Scope) (ps : List Str) (body : List Stmt) : Prop where
  at_ : ∃ o fd, hS.get? a = some o ∧ o.data = .func fd ∧ fd.closure = [] ∧ fd.globals = mainGlobals ∧ fd.builtins = builtinsNs ∧ fd.body = .stmts body ∧ fd.scope = sc ∧ hS.CodeRec fd.code fd.qualname ∧
    ∀ vs : List Value, vs.length = ps.length → bindArgs fd ⟨vs, []⟩ = pure (ps.zip vs)
theorem FnAt.callee {a : Addr} {ps : List Str} {body : List Stmt} (h : FnAt hS a sc ps body) : Callee hS (.ref a) := let ⟨o, fd, h1, h2, _⟩ := h.at_; .func a o fd h1 h2

theorem zip_fst : ∀ {ps : List Str} {vs : List Value}, vs.length = ps.length → (ps.zip vs).map (·.1) = ps
  | [], _, _ => by simp
  | p :: ps, [], h => by simp at h
  | p :: ps, v :: vs, h => by simp [zip_fst (ps := ps) (vs := vs) (by simpa using h)]
theorem zip_lookup : ∀ {ps : List Str} {vs : List Value} {i : Nat} {x : Str} {v : Value}, ps.Nodup → ps[i]? = some x → vs[i]? = some v → (ps.zip vs).lookup x = some v
  | [], _, _, _, _, _, h, _ => by simp at h
  | p :: ps, [], i, _, _, _, _, h => by simp at h
  | p :: ps, u :: vs, 0, x, v, nd, h1, h2 => by
    simp only [List.getElem?_cons_zero, Option.some.injEq] at h1 h2
    subst h1; subst h2
    simp [List.lookup_cons]
  | p :: ps, u :: vs, i + 1, x, v, nd, h1, h2 => by
    rw [List.getElem?_cons_succ] at h1 h2
    rw [List.nodup_cons] at nd
    have : x ≠ p := fun q => nd.1 (q ▸ List.mem_of_getElem? h1)
    show ((p, u) :: ps.zip vs).lookup x = some v
    rw [List.lookup_cons, beq_eq_false_iff_ne.mpr this]
    exact zip_lookup nd.2 h1 h2

/-- what a function's code does -/
noncomputable def OpC (W : Wd hS) (prog : Program) (w : World) (n : Nat) (st : W.σ) (a : Addr) (ds : List D) (d : D) (st₁ : W.σ) : Prop :=
  ∀ (A : Around) (U : Addr → Prop) (s : Shared) (vs : List Value), Room A n → (∀ a o, hS.get? a = some o → s.heap.get? a = some o) → (∀ a, W.Mut a → U a) → (∀ a, U a → ∃ o, s.heap.get? a = some o) → W.holds st s → Reps U s.heap vs ds →
    codeAny (model prog w) A (.call (.ref a) ⟨vs, []⟩) (fun r s' => match r with | .ok (.ret v) => Ext W.Mut s s' ∧ W.holds st₁ s' ∧ Rep U s'.heap v d | .ok _ => False | .error _ => False) s
theorem OpC.op {a : Addr} {ds : List D} {d : D} (h : OpC W prog w n st a ds d st₁) : OpW W prog w n st (Call (.ref a)) ds d st₁ := fun A U s vs rm stat mu low hold q => wpAny_call (h A U s vs rm stat mu low hold q)
theorem fun_okC {a : Addr} {ps : List Str} {body : List Stmt} {ds : List D} {d : D} {o : Out W.σ} (ho' : o = .ret d st₁ ∨ ∃ ρ', o = .next ρ' st₁ ∧ d = .none) (hl : hS.NoLimit) (F : FnAt hS a sc ps body) (hok : fnOk sc vars ps = true) (hlen : ds.length = ps.length)
    (hbody : EX prog w n W sc vars (ds.map some) st body o) : OpC W prog w (n + 1) st a ds d st₁ := fun A U s vs rm stat mu low hold q => by
  obtain ⟨o, fd, ho, hd, hcl, hgl, hbl, hbd, hsc, hcd, hbind⟩ := F.at_
  have hvl : vs.length = ps.length := by rw [q.length, hlen]
  unfold fnOk at hok
  simp only [Bool.and_eq_true, decide_eq_true_eq, List.all_eq_true, Bool.or_eq_true, beq_iff_eq, Bool.not_eq_true'] at hok
  obtain ⟨⟨⟨⟨⟨⟨k1, k2⟩, k3⟩, k4⟩, k5⟩, k6⟩, k7⟩ := hok
  have psn : ps.Nodup := by rw [k3]; exact k4.sublist (List.take_sublist _ _)
  have psv : ∀ (i : Nat) (x : Str), ps[i]? = some x → vars[i]? = some x := fun i x h => by
    rw [k3, List.getElem?_take] at h
    split at h
    · exact h
    · cases h
  have varsIn : ∀ x ∈ vars, (x, NameKind.local) ∈ sc.names ∨ (x, NameKind.cell) ∈ sc.names := fun x hx => (k2 x hx).imp mem_of_lookup mem_of_lookup
  have nofree : ∀ x ∈ vars, sc.names.lookup x ≠ some .free := fun x hx h => by rcases k2 x hx with q | q <;> rw [q] at h <;> cases h
  refine codeAny_call_function (fd := fd) (body := body) (by have := rm.depth; omega) (stat _ _ ho) hd (by rw [hsc]; exact k6) (by rw [hsc]; exact k7) hbd (hcd.keeps stat) ?_
  rw [hbind vs hvl, hcl, hgl, hbl, hsc]
  refine wpAny_pure (wpAny_newFunctionEnv_cells k5 (fun x hx => ?_) fun env henv s₂ hin => ?_)
  · have hxp : x.1 ∈ ps := by rw [← zip_fst hvl]; exact List.mem_map_of_mem hx
    obtain ⟨i, hi⟩ := List.getElem?_of_mem hxp
    have hv := List.mem_of_getElem? (psv i _ hi)
    rcases k2 _ hv with h | h
    · exact .inl h
    · obtain ⟨c, hc⟩ := cellsFrom_mem sc.names (s.heap.objs.size + 1) x.1 (mem_of_lookup h)
      exact .inr ⟨h, by rw [hc]; rfl⟩
  have hko : ∀ x, env.kindOf x = sc.names.lookup x := fun x => by rw [henv]; rfl
  have hft : Fits sc env := ⟨by rw [henv]; rfl, k5, by rw [henv]; rfl, by rw [henv]; rfl⟩
  have hloc : env.locals = s.heap.objs.size := by rw [henv]; rfl
  have hcells : env.cells = cellsFrom (s.heap.objs.size + 1) sc.names [] := by rw [henv]; rfl
  obtain ⟨⟨h₂, tk₂, rfl⟩, hns, hkeep, hfresh⟩ := hin.toInCall
  have x2 : Ext Nowhere s { s with heap := h₂, toks := tk₂ } := .heap hkeep
  have freshNone : ∀ a, s.heap.objs.size ≤ a → s.heap.get? a = none := fun a ha => by
    cases e : s.heap.get? a with
    | none => rfl
    | some o => exact absurd (Heap.lt_size e) (Nat.not_lt.mpr ha)
  have hLn : s.heap.get? env.locals = none := freshNone _ (by rw [hloc]; exact Nat.le_refl _)
  have hCn : ∀ x c, env.cells.lookup x = some c → s.heap.get? c = none := fun x c hc => freshNone _ (by
    exact Nat.le_trans (Nat.le_of_eq hloc.symm) (Nat.le_of_lt (hin.above x c (mem_of_lookup hc))))
  have nofoot : ∀ a, s.heap.get? a = none → ¬ W.foot a ∧ hS.get? a = none := fun a ha => by
    refine ⟨fun m => ?_, ?_⟩
    · obtain ⟨o, e⟩ := W.alive hold a m; rw [ha] at e; cases e
    · cases e : hS.get? a with
      | none => rfl
      | some o => rw [stat a o e] at ha; cases ha
  have hst : Stand W U env vars (ds.map some) st { s with heap := h₂, toks := tk₂ } := by
    refine ⟨fun a o e => hkeep a o (stat a o e), mu, fun a u => let ⟨o, e⟩ := low a u; ⟨o, hkeep a o e⟩, W.still0 hold stat x2, ⟨_, hns⟩, (nofoot _ hLn).1, (nofoot _ hLn).2, fun x c hc => (nofoot _ (hCn x c hc)).1, fun x c hc => (nofoot _ (hCn x c hc)).2,
      fun x c hc => ⟨_, hin.cell x c hc⟩, fun x y c hx hy => name_of_addr hin.apart (mem_of_lookup hx) (mem_of_lookup hy), fun i x d' h1 h2 => ?_⟩
    rw [List.getElem?_map] at h2
    cases hdi : ds[i]? with
    | none => rw [hdi] at h2; cases h2
    | some d0 =>
      rw [hdi] at h2
      simp only [Option.map_some, Option.some.injEq] at h2
      subst h2
      obtain ⟨v, hv, hr⟩ := q.get i hdi
      have hip : ps[i]? = some x := by
        have hlt : i < ps.length := by rw [← hlen]; exact (List.getElem?_eq_some_iff.mp hdi).1
        have e1 : ps[i]? = some ps[i] := by simp [hlt]
        have e2 := psv i _ e1
        rw [h1] at e2; rw [e1]; exact e2.symm
      have hlk := zip_lookup psn hip hv
      refine ⟨v, ?_, hr.ext0 x2⟩
      rcases k2 x (List.mem_of_getElem? h1) with hk | hk
      · exact .inl ⟨by rw [hko]; exact hk, _, hns, by rw [bindL_of (by rw [hko]; exact hk) _ _ (by rw [zip_fst hvl]; exact psn), hlk]; rfl⟩
      · obtain ⟨c, hc⟩ := cellsFrom_mem sc.names (s.heap.objs.size + 1) x (mem_of_lookup hk)
        rw [← hcells] at hc
        refine .inr ⟨.inl (by rw [hko]; exact hk), c, hc, ?_⟩
        have := hin.cell x c hc
        rw [bindC_of (by rw [hko, hk]; decide) _ _ (by rw [zip_fst hvl]; exact psn), hlk] at this
        exact this
  have hstored : ∀ x ∈ vars, Stored env x := fun x hx => by
    rcases k2 x hx with hk | hk
    · exact .inl (by rw [hko]; exact hk)
    · obtain ⟨c, hc⟩ := cellsFrom_mem sc.names (s.heap.objs.size + 1) x (mem_of_lookup hk)
      exact .inr ⟨by rw [hko]; exact hk, c, by rw [hcells]; exact hc⟩
  refine ⟨(hl.keeps stat).keeps hkeep, codeAny_func ?_⟩
  refine wpAny_mono (hbody (A.deeper env) env U _ (rm.deeper env) hft hst hstored) (fun fl s' z => ?_) fun _ _ f => f.elim
  have fin : ∀ {b : Addr} {ob : Obj}, Ext (fun a => W.Mut a ∨ Own env vars a) { s with heap := h₂, toks := tk₂ } s' → ¬ W.Mut b → s.heap.get? b = some ob → s'.heap.get? b = some ob := fun {b ob} xf nb e => by
    refine xf.keep b ob ?_ (hkeep b ob e)
    rintro (m | m | ⟨x, _, hc⟩)
    · exact nb m
    · rw [m, hLn] at e; cases e
    · rw [hCn x b hc] at e; cases e
  rcases ho' with rfl | ⟨ρ', rfl, rfl⟩
  · obtain ⟨xf, v, rfl, hh, hr⟩ := z
    exact ⟨⟨fun b ob nb e => fin xf nb e, xf.os, xf.gsize, xf.gens, xf.bare⟩, hh, hr⟩
  · obtain ⟨xf, rfl, I'⟩ := z
    exact ⟨⟨fun b ob nb e => fin xf nb e, xf.os, xf.gsize, xf.gens, xf.bare⟩, I'.hold, .none⟩
theorem fun_okO {a : Addr} {ps : List Str} {body : List Stmt} {ds : List D} {d : D} {o : Out W.σ} (ho' : o = .ret d st₁ ∨ ∃ ρ', o = .next ρ' st₁ ∧ d = .none) (hl : hS.NoLimit) (F : FnAt hS a sc ps body) (hok : fnOk sc vars ps = true) (hlen : ds.length = ps.length)
    (hbody : EX prog w n W sc vars (ds.map some) st body o) : OpW W prog w (n + 1) st (Call (.ref a)) ds d st₁ := (fun_okC ho' hl F hok hlen hbody).op
theorem fun_okW {a : Addr} {ps : List Str} {body : List Stmt} {ds : List D} {d : D} (hl : hS.NoLimit) (F : FnAt hS a sc ps body) (hok : fnOk sc vars ps = true) (hlen : ds.length = ps.length)
    (hbody : EX prog w n W sc vars (ds.map some) st body (.ret d st₁)) : OpW W prog w (n + 1) st (Call (.ref a)) ds d st₁ := fun_okO (.inl rfl) hl F hok hlen hbody

theorem fun_ok {a : Addr} {ps : List Str} {body : List Stmt} {ds : List D} {d : D} (hl : hS.NoLimit) (F : FnAt hS a sc ps body) (hok : fnOk sc vars ps = true) (hlen : ds.length = ps.length)
    (hbody : EX prog w n (Wd.still hS) sc vars (ds.map some) () body (.ret d ())) : Op hS prog w (n + 1) (Call (.ref a)) ds d :=
  (fun_okW hl F hok hlen hbody).pure
end
end
section
section
variable {hS : Heap} {prog : Program} {w : World} {n : Nat}

noncomputable abbrev dI (l : List Int) : D := .list (l.map .int)
noncomputable abbrev dB (l : List Bool) : D := .list (l.map .bool)
noncomputable abbrev dS (l : List (List Nat)) : D := .list (l.map fun p => .str (S p))

theorem Reps.dI {U h} : ∀ {vs : List Value} {l : List Int}, Reps U h vs (l.map .int) → IntsAre vs l
  | _, [], r => by cases r; exact .nil
  | _, i :: l, r => by
    cases r with
    | cons a b => obtain ⟨t, rfl⟩ := a.of_int; exact .cons _ _ b.dI
theorem Reps.intItems {U h} : ∀ {vs : List Value} {l : List Int}, Reps U h vs (l.map .int) → ∃ xs : List (Int × Tok), vs.toArray = PySem.intItems xs.toArray ∧ xs.map (·.1) = l
  | _, [], r => by cases r; exact ⟨[], by simp [PySem.intItems], rfl⟩
  | _, i :: l, r => by
    cases r with
    | cons a b =>
      obtain ⟨t, rfl⟩ := a.of_int
      obtain ⟨xs, h1, h2⟩ := b.intItems
      refine ⟨(i, t) :: xs, ?_, by rw [List.map_cons, h2]⟩
      have h1' := congrArg Array.toList h1
      simp only [PySem.intItems] at h1' ⊢
      apply Array.toList_inj.mp
      simpa using h1'
theorem Reps.dS {U h} : ∀ {vs : List Value} {l : List (List Nat)}, Reps U h vs (l.map fun p => .str (S p)) → StrsAre vs (l.map S)
  | _, [], r => by cases r; exact .nil
  | _, i :: l, r => by
    cases r with
    | cons a b => obtain ⟨t, rfl⟩ := a.of_str; exact .cons _ _ b.dS

theorem ext_keep {M : Addr → Prop} {s : Shared} {h' : Heap} {tk : Nat} (k : ∀ b o, s.heap.get? b = some o → h'.get? b = some o) : Ext M s { s with heap := h', toks := tk } := .heap k

/-! calls of one -/
theorem op_len {ds : List D} (hsz : ds.length < 2 ^ 62) : Op hS prog w n (Call (.builtin "len")) [.list ds] (.int ds.length) := .call1 fun A U s v1 _ _ h1 => by
  obtain ⟨a, vs, rfl, _, hl, r⟩ := h1.of_list
  have e : vs.toArray.size = ds.length := by simp [r.length]
  exact PyProof.Rows.len_list hl.isList (by rw [e]; omega) (by rw [e]; exact ⟨.tok, .int _ _⟩)
theorem op_slen {p : List Nat} (hsz : p.length < 2 ^ 62) : Op hS prog w n (Call (.builtin "len")) [.str (S p)] (.int p.length) := .call1 fun A U s v1 _ _ h1 => by
  obtain ⟨t, rfl⟩ := h1.of_str
  exact PyProof.Rows.len_str (by rw [S_length]; omega) (by rw [S_length]; exact ⟨.tok, .int _ _⟩)
theorem op_ord {c : Nat} : Op hS prog w n (Call (.builtin "ord")) [.str (S [c])] (.int c) := .call1 fun A U s v1 _ _ h1 => by
  obtain ⟨t, rfl⟩ := h1.of_str
  exact P.ord_of_char ⟨.tok, .int _ _⟩
theorem op_chr {i : Int} (h0 : 0 ≤ i) (h1 : i ≤ 1114111) : Op hS prog w n (Call (.builtin "chr")) [.int i] (.str (S [i.toNat])) := .call1 fun A U s v1 _ _ q => by
  obtain ⟨t, rfl⟩ := q.of_int
  exact chr_of_range h0 h1 ⟨.tok, .str _ _⟩
theorem op_round {x : UInt64} (h : Float64.isFinite x = true) (h0 : Float64.isNaN x = false) (h1 : Float64.isInf x = false) : Op hS prog w n (Call (.builtin "round")) [.float x] (.int (Flt.toInt Float64.nearestOf x)) := .call1 fun A U s v1 r _ q => by
  obtain ⟨t, rfl⟩ := q.of_float
  exact Flt.call_round_float r.handled (fun c => by rw [h0] at c; cases c) (fun c => by rw [h1] at c; cases c) fun _ => ⟨.tok, .int _ _⟩
theorem op_intf {x : UInt64} (h : Float64.isFinite x = true) (h0 : Float64.isNaN x = false) (h1 : Float64.isInf x = false) : Op hS prog w n (Call (.type "int")) [.float x] (.int (Flt.toInt Float64.truncOf x)) := .call1 fun A U s v1 r _ q => by
  obtain ⟨t, rfl⟩ := q.of_float
  exact Flt.call_int_float3 r.handled (fun c => by rw [h0] at c; cases c) (fun c => by rw [h1] at c; cases c) fun _ => ⟨.tok, .int _ _⟩
theorem preSum_list : ∀ (xs : List (Int × Tok)) (k : Nat), preSum (numAt xs.toArray) k = ((xs.map (·.1)).take k).sum := by
  intro xs k
  induction k with
  | zero => simp [preSum]
  | succ k ih =>
    rw [preSum, ih]
    by_cases hk : k < xs.length
    · have : (xs.map (·.1)).take (k + 1) = (xs.map (·.1)).take k ++ [xs[k].1] := by
        rw [List.take_add_one, List.getElem?_map, List.getElem?_eq_getElem hk]; rfl
      rw [this, List.sum_append, List.sum_singleton]
      simp [numAt, hk]
    · have e1 : (xs.map (·.1)).take (k + 1) = xs.map (·.1) := List.take_of_length_le (by simp; omega)
      have e2 : (xs.map (·.1)).take k = xs.map (·.1) := List.take_of_length_le (by simp; omega)
      rw [e1, e2]
      simp [numAt, hk]
theorem op_sum {l : List Int} : Op hS prog w n (Call (.builtin "sum")) [dI l] (.int l.sum) := .call1 fun A U s v1 rm _ q => by
  obtain ⟨a, vs, rfl, _, hl, r⟩ := q.of_list
  obtain ⟨xs, e1, e2⟩ := r.intItems
  have hl' := hl.isList
  rw [e1] at hl'
  refine sum_intListG rm.handled hl' fun h' tk t' k => ?_
  rw [preSum_list]
  have : (xs.map (·.1)).take xs.toArray.size = l := by rw [← e2]; exact List.take_of_length_le (by simp)
  rw [this]
  exact ⟨ext_keep k, .int _ _⟩
theorem op_listOfStr {p : List Nat} (hsz : p.length ≤ 1000000) : Op hS prog w n (Call (.type "list")) [.str (S p)] (.list (p.map fun c => D.str (S [c]))) := .call1 fun A U s v1 rm low q => by
  obtain ⟨t, rfl⟩ := q.of_str
  refine call_list_str rm.handled _ _ (fun h' tk acc' c' k hget hit => ⟨ext_keep k, ?_⟩) (by show (S p).length ≤ _; rw [S_length]; exact Nat.le_trans hsz (by decide))
  have hn : acc'.size = p.length := by rw [hit.1]; exact S_length p
  refine .list _ acc'.toList _ (fresh_not low) ⟨c', by rw [hget]⟩ ?_
  have hall : ∀ j v, acc'[j]? = some v → ∃ c, p[j]? = some c ∧ ∃ u, v = Value.str (S [c]) u := fun j v hj => by
    obtain ⟨c, u, h1, h2⟩ := hit.2 j v hj
    refine ⟨c, by simpa [S] using h1, u, h2⟩
  have hall' : ∀ j v, acc'.toList[j]? = some v → ∃ c, p[j]? = some c ∧ ∃ u, v = Value.str (S [c]) u := fun j v hj => hall j v (by simpa using hj)
  have hn' : acc'.toList.length = p.length := by simpa using hn
  clear hall hn hget hit
  generalize acc'.toList = l at hall' hn'
  clear q
  induction p generalizing l with
  | nil => cases l with
    | nil => exact .nil
    | cons a b => simp at hn'
  | cons c p ih =>
    cases l with
    | nil => simp at hn'
    | cons v l =>
      obtain ⟨c', h1, u, rfl⟩ := hall' 0 v rfl
      cases h1
      refine .cons (.str _ _) (ih (by simp at hsz; omega) l (fun j v hj => hall' (j + 1) v (by simpa using hj)) (by simpa using hn'))
theorem op_listOfList {ds : List D} (hsz : ds.length ≤ 1000000) : Op hS prog w n (Call (.type "list")) [.list ds] (.list ds) := .call1 fun A U s v1 rm low q => by
  obtain ⟨a, vs, rfl, _, ⟨m, ho⟩, r⟩ := q.of_list
  refine call_list_seq a (.inl rfl) ho rfl rfl (fun h' c' k hget => ⟨ext_keep k, ?_⟩) (by simp [r.length]; exact Nat.le_trans hsz (by decide))
  exact .list _ vs _ (fresh_not low) ⟨c', hget⟩ (r.move fun b o nu _ e => ⟨k b o e, nu⟩)

/-! calls of two or three -/
theorem Op.call2 {f : Value} {d1 d2 d : D}
    (h : ∀ (A : Around) (U : Addr → Prop) (s : Shared) (v1 v2 : Value), Room A n → (∀ a, U a → ∃ o, s.heap.get? a = some o) → Rep U s.heap v1 d1 → Rep U s.heap v2 d2 →
      wpAny (model prog w) A (PySem.call f [v1, v2]) (fun v s' => Ext Nowhere s s' ∧ Rep U s'.heap v d) (fun _ _ => False) s) : Op hS prog w n (Call f) [d1, d2] d := fun A U s vs r _ l q => by
  obtain ⟨u, v, rfl, h1, h2⟩ := q.two
  exact h A U s u v r l h1 h2
theorem op_max2 {a b : Int} : Op hS prog w n (Call (.builtin "max")) [.int a, .int b] (.int (if b > a then b else a)) := .call2 fun A U s v1 v2 rm _ h1 h2 => by
  obtain ⟨_, rfl⟩ := h1.of_int; obtain ⟨_, rfl⟩ := h2.of_int
  refine max_two_ints rm.handled fun h' tk k => ⟨ext_keep k, ?_⟩
  split <;> exact .int _ _
theorem op_min2 {a b : Int} : Op hS prog w n (Call (.builtin "min")) [.int a, .int b] (.int (if b < a then b else a)) := .call2 fun A U s v1 v2 rm _ h1 h2 => by
  obtain ⟨_, rfl⟩ := h1.of_int; obtain ⟨_, rfl⟩ := h2.of_int
  refine min_two_ints rm.handled fun h' tk k => ⟨ext_keep k, ?_⟩
  split <;> exact .int _ _
theorem op_count {l : List Int} {k : Int} : Op hS prog w n (Call (.builtin "list.count")) [dI l, .int k] (.int (l.count k)) := .call2 fun A U s v1 v2 rm _ h1 h2 => by
  obtain ⟨a, vs, rfl, _, hl, r⟩ := h1.of_list
  obtain ⟨t, rfl⟩ := h2.of_int
  exact count_list_ints hl.isList r.dI ⟨.tok, .int _ _⟩
theorem op_index {l : List Int} {k : Int} (hk : k ∈ l) (hlay : PyData.layable0 (.list (l.map PyData.int)) = true) : Op hS prog w n (Call (.builtin "list.index")) [dI l, .int k] (.int (l.idxOf k)) := .call2 fun A U s v1 v2 rm _ h1 h2 => by
  obtain ⟨a, vs, rfl, _, hl, r⟩ := h1.of_list
  obtain ⟨t, rfl⟩ := h2.of_int
  exact index_list_ints hl.isList r.dI hlay hk ⟨.tok, .int _ _⟩
theorem reads_bools {U h} {hp : Heap} : ∀ {vs : List Value} {l : List Bool}, Reps U h vs (l.map .bool) → ∃ as, ReadsAll hp vs (l.map PyData.bool) as
  | _, [], r => by cases r; exact ⟨[], .nil⟩
  | _, i :: l, r => by
    cases r with
    | cons a b =>
      have := a.of_bool; subst this
      obtain ⟨as, q⟩ := reads_bools (hp := hp) b
      exact ⟨_, .cons (.bool i) q⟩
theorem countIn_bools (k : Bool) : ∀ l : List Bool, Spec.countIn (.bool k) (l.map PyData.bool) = (l.count k : Nat)
  | [] => rfl
  | b :: l => by
    rw [List.map_cons, Spec.countIn, countIn_bools k l, List.count_cons]
    cases b <;> cases k <;> simp [Spec.same] <;> omega
theorem op_countb {l : List Bool} {k : Bool} : Op hS prog w n (Call (.builtin "list.count")) [dB l, .bool k] (.int (l.count k)) := .call2 fun A U s v1 v2 rm _ h1 h2 => by
  obtain ⟨a, vs, rfl, _, hl, r⟩ := h1.of_list
  have := h2.of_bool; subst this
  obtain ⟨as, q⟩ := reads_bools (hp := s.heap) r
  exact count_list_bools hl.isList q (by simp [Spec.Shape.has]) (by rw [countIn_bools]; exact ⟨.tok, .int _ _⟩)
theorem glued_empty (ls : List (List Nat)) : Txt.join (S []) (ls.map S) = S ls.flatten := by
  unfold Txt.join Builtin.Str.glued
  cases ls with
  | nil => rfl
  | cons p ls =>
    have key : ∀ (r : List (List Nat)) (acc : Array Nat), (r.map S).foldl (fun acc p => acc ++ (S []).cps ++ p.cps) acc = acc ++ r.flatten.toArray := by
      intro r
      induction r with
      | nil => intro acc; simp
      | cons q r ih => intro acc; rw [List.map_cons, List.foldl_cons, ih]; simp [S]
    simp only [List.map_cons, List.drop_one, List.tail_cons, List.headD_cons]
    rw [key]
    simp [S]
theorem op_join {ls : List (List Nat)} (hsz : (ls.map (·.length)).sum + ls.length * 64 ≤ 1000000) : Op hS prog w n (Call (.builtin "str.join")) [.str (S []), dS ls] (.str (S ls.flatten)) := .call2 fun A U s v1 v2 rm _ h1 h2 => by
  obtain ⟨_, rfl⟩ := h1.of_str
  obtain ⟨a, vs, rfl, _, hl, r⟩ := h2.of_list
  refine join_listC hl.isList (ys := ls.map S) r.dS (by decide) ?_ fun t' k => by rw [glued_empty]; exact ⟨.tok, .str _ _⟩
  have : (ls.map S).map (·.length) = ls.map (·.length) := by rw [List.map_map]; apply List.map_congr_left; intro a _; exact S_length a
  rw [this, List.length_map]
  omega

noncomputable def fmax (x y : UInt64) : UInt64 := if Float64.cmp x y == some .lt then y else x
noncomputable def fmin (x y : UInt64) : UInt64 := if Float64.cmp y x == some .lt then y else x
theorem op_max3 {x y z : UInt64} : Op hS prog w n (Call (.builtin "max")) [.float x, .float y, .float z] (.float (fmax (fmax x y) z)) := fun A U s vs rm _ low q => by
  obtain ⟨v1, v2, v3, rfl, h1, h2, h3⟩ := q.three
  obtain ⟨t, rfl⟩ := h1.of_float; obtain ⟨u, rfl⟩ := h2.of_float; obtain ⟨v, rfl⟩ := h3.of_float
  have hT : (s.heap.push { cls := .type "tuple", data := .seq #[.float x t, .float y u, .float z v] }).IsTuple s.heap.objs.size #[.float x t, .float y u, .float z v] := ⟨_, Heap.get?_push_size _ rfl, rfl, 0, rfl⟩
  refine call_max_three (wpAny_pyIter_tuple hT ?_)
  have hsz : (s.heap.push { cls := .type "tuple", data := .seq #[.float x t, .float y u, .float z v] }).objs.size = s.heap.objs.size + 1 := Heap.size_push ..
  refine ⟨_, [_, s.heap.objs.size], [_], _, _, _, _, rfl, Walks.tuple (A := A.in1) rm.handled _ s.heap.objs.size (by rw [hsz]; exact Nat.ne_of_lt (Nat.lt_succ_self _)) #[.float x t, .float y u, .float z v],
    ⟨⟨_, Heap.get?_push_size _ rfl, rfl, rfl⟩, hT.push _⟩, fun c hc => ?_, by simp, Flt.cmpOf_gt #[.float x t, .float y u, .float z v] (fun v hv => by simp at hv; rcases hv with rfl | rfl | rfl <;> exact .float _ _), fun r h' tk hP hk => ?_⟩
  · show c < ((s.heap.push _).push _).objs.size
    rw [Heap.size_push, hsz]
    rcases List.mem_cons.mp hc with rfl | hc
    · rw [hsz]; exact Nat.lt_succ_self _
    · rcases List.mem_cons.mp hc with rfl | hc
      · exact Nat.lt_succ_of_lt (Nat.lt_succ_self _)
      · cases hc
  · have hold : ∀ c o, s.heap.get? c = some o → h'.get? c = some o := fun c o e => by
      refine hk c o (fun hm => ?_) (Heap.get?_push_of_some _ (Heap.get?_push_of_some _ e))
      rcases List.mem_cons.mp hm with e1 | hm
      · have := Heap.lt_size e; rw [e1, hsz] at this; exact Nat.lt_irrefl _ (Nat.lt_of_succ_lt this)
      · cases hm
    refine ⟨ext_keep hold, ?_⟩
    have hr : ∃ tt, r = .float (fmax (fmax x y) z) tt := by
      unfold fmax
      cases c1 : (Float64.cmp x y == some .lt) <;> simp only [Bool.false_eq_true, if_false, if_true] 
      · cases c2 : (Float64.cmp x z == some .lt) <;> simp only [Bool.false_eq_true, if_false, if_true] <;> simp [argBest, Flt.ltV, c1, c2] at hP <;> exact ⟨_, hP.symm⟩
      · cases c2 : (Float64.cmp y z == some .lt) <;> simp only [Bool.false_eq_true, if_false, if_true] <;> simp [argBest, Flt.ltV, c1, c2] at hP <;> exact ⟨_, hP.symm⟩
    obtain ⟨tt, rfl⟩ := hr
    exact .float _ _
theorem op_min3 {x y z : UInt64} : Op hS prog w n (Call (.builtin "min")) [.float x, .float y, .float z] (.float (fmin (fmin x y) z)) := fun A U s vs rm _ low q => by
  obtain ⟨v1, v2, v3, rfl, h1, h2, h3⟩ := q.three
  obtain ⟨t, rfl⟩ := h1.of_float; obtain ⟨u, rfl⟩ := h2.of_float; obtain ⟨v, rfl⟩ := h3.of_float
  have hT : (s.heap.push { cls := .type "tuple", data := .seq #[.float x t, .float y u, .float z v] }).IsTuple s.heap.objs.size #[.float x t, .float y u, .float z v] := ⟨_, Heap.get?_push_size _ rfl, rfl, 0, rfl⟩
  refine call_min_three (wpAny_pyIter_tuple hT ?_)
  have hsz : (s.heap.push { cls := .type "tuple", data := .seq #[.float x t, .float y u, .float z v] }).objs.size = s.heap.objs.size + 1 := Heap.size_push ..
  refine ⟨_, [_, s.heap.objs.size], [_], _, _, _, _, rfl, Walks.tuple (A := A.in1) rm.handled _ s.heap.objs.size (by rw [hsz]; exact Nat.ne_of_lt (Nat.lt_succ_self _)) #[.float x t, .float y u, .float z v],
    ⟨⟨_, Heap.get?_push_size _ rfl, rfl, rfl⟩, hT.push _⟩, fun c hc => ?_, by simp, Flt.cmpOf_lt #[.float x t, .float y u, .float z v] (fun v hv => by simp at hv; rcases hv with rfl | rfl | rfl <;> exact .float _ _), fun r h' tk hP hk => ?_⟩
  · show c < ((s.heap.push _).push _).objs.size
    rw [Heap.size_push, hsz]
    rcases List.mem_cons.mp hc with rfl | hc
    · rw [hsz]; exact Nat.lt_succ_self _
    · rcases List.mem_cons.mp hc with rfl | hc
      · exact Nat.lt_succ_of_lt (Nat.lt_succ_self _)
      · cases hc
  · have hold : ∀ c o, s.heap.get? c = some o → h'.get? c = some o := fun c o e => by
      refine hk c o (fun hm => ?_) (Heap.get?_push_of_some _ (Heap.get?_push_of_some _ e))
      rcases List.mem_cons.mp hm with e1 | hm
      · have := Heap.lt_size e; rw [e1, hsz] at this; exact Nat.lt_irrefl _ (Nat.lt_of_succ_lt this)
      · cases hm
    refine ⟨ext_keep hold, ?_⟩
    have hr : ∃ tt, r = .float (fmin (fmin x y) z) tt := by
      unfold fmin
      cases c1 : (Float64.cmp y x == some .lt) <;> simp only [Bool.false_eq_true, if_false, if_true] 
      · cases c2 : (Float64.cmp z x == some .lt) <;> simp only [Bool.false_eq_true, if_false, if_true] <;> simp [argBest, Flt.ltV, c1, c2] at hP <;> exact ⟨_, hP.symm⟩
      · cases c2 : (Float64.cmp z y == some .lt) <;> simp only [Bool.false_eq_true, if_false, if_true] <;> simp [argBest, Flt.ltV, c1, c2] at hP <;> exact ⟨_, hP.symm⟩
    obtain ⟨tt, rfl⟩ := hr
    exact .float _ _

/-! the others -/
noncomputable abbrev Inp (op : Operator) : List Value → Sem Value := fun vs => match vs with | [a, b] => inplaceOp op a b | _ => pure .none
theorem Op.inp {op : Operator} {d1 d2 d : D}
    (h : ∀ (A : Around) (U : Addr → Prop) (s : Shared) (v1 v2 : Value), Room A n → Rep U s.heap v1 d1 → Rep U s.heap v2 d2 →
      wpAny (model prog w) A (inplaceOp op v1 v2) (fun v s' => Ext Nowhere s s' ∧ Rep U s'.heap v d) (fun _ _ => False) s) : Op hS prog w n (Inp op) [d1, d2] d := fun A U s vs r _ _ q => by
  obtain ⟨u, v, rfl, h1, h2⟩ := q.two
  exact h A U s u v r h1 h2
theorem op_iadd {a b : Int} : Op hS prog w n (Inp .Add) [.int a, .int b] (.int (a + b)) := .inp fun A U s v1 v2 _ h1 h2 => by
  obtain ⟨_, rfl⟩ := h1.of_int; obtain ⟨_, rfl⟩ := h2.of_int
  exact PyProof.Rows.iadd_int ⟨.tok, .int _ _⟩
theorem op_isub {a b : Int} : Op hS prog w n (Inp .Sub) [.int a, .int b] (.int (a - b)) := .inp fun A U s v1 v2 _ h1 h2 => by
  obtain ⟨_, rfl⟩ := h1.of_int; obtain ⟨_, rfl⟩ := h2.of_int
  exact PyProof.Rows.isub_int ⟨.tok, .int _ _⟩
theorem op_isadd {p q : List Nat} (h : p.length + q.length ≤ 1000000) : Op hS prog w n (Inp .Add) [.str (S p), .str (S q)] (.str (S (p ++ q))) := .inp fun A U s v1 v2 _ h1 h2 => by
  obtain ⟨_, rfl⟩ := h1.of_str; obtain ⟨_, rfl⟩ := h2.of_str
  exact PyProof.Rows.iadd_str (fun _ _ => by rw [S_append]; exact ⟨.tok, .str _ _⟩) (by rw [S_length, S_length]; exact Nat.le_trans h (by decide))
theorem op_isb {a b : Bool} : Op hS prog w n (Cmp .Is) [.bool a, .bool b] (.bool (a == b)) := .cmp fun A U s v1 v2 _ h1 h2 => by
  have := h1.of_bool; subst this; have := h2.of_bool; subst this
  exact is_bool ⟨.refl _ _, .bool _⟩
theorem op_isnotb {a b : Bool} : Op hS prog w n (Cmp .IsNot) [.bool a, .bool b] (.bool (a != b)) := .cmp fun A U s v1 v2 _ h1 h2 => by
  have := h1.of_bool; subst this; have := h2.of_bool; subst this
  exact isnot_bool ⟨.refl _ _, .bool _⟩
theorem op_isNoneNone : Op hS prog w n (Cmp .Is) [.none, .none] (.bool true) := .cmp fun A U s v1 v2 _ h1 h2 => by
  have := h1.of_none; subst this; have := h2.of_none; subst this
  exact is_none_none ⟨.refl _ _, .bool _⟩
theorem op_isIntNone {i : Int} : Op hS prog w n (Cmp .Is) [.int i, .none] (.bool false) := .cmp fun A U s v1 v2 _ h1 h2 => by
  obtain ⟨_, rfl⟩ := h1.of_int; have := h2.of_none; subst this
  exact is_int_none ⟨.refl _ _, .bool _⟩
end
end
section
/-! places of the variables, by their names -/
inductive At : List Str → List (Option D) → Str → D → Prop
  | here {x xs d ρ} : At (x :: xs) (some d :: ρ) x d
  | there {x y xs d o ρ} : At xs ρ x d → At (y :: xs) (o :: ρ) x d
inductive Put : List Str → List (Option D) → Str → D → List (Option D) → Prop
  | here {x xs d o ρ} : Put (x :: xs) (o :: ρ) x d (some d :: ρ)
  | there {x y xs d o ρ ρ'} : Put xs ρ x d ρ' → Put (y :: xs) (o :: ρ) x d (o :: ρ')
inductive Caps (vars : List Str) (ρ : List (Option D)) : List Str → List D → List (Option D) → Prop
  | nil : Caps vars ρ [] [] []
  | cons {x xs d ds rs} : At vars ρ x d → Caps vars ρ xs ds rs → Caps vars ρ (x :: xs) (d :: ds) (some d :: rs)
inductive Less : List (Option D) → List (Option D) → Prop
  | nil {ρ} : Less [] ρ
  | same {o a b} : Less a b → Less (o :: a) (o :: b)
  | off {o a b} : Less a b → Less (none :: a) (o :: b)
  | end {a} : Less a [] → Less (none :: a) []

theorem At.idx {vars ρ x d} (h : At vars ρ x d) : ∃ i : Nat, vars[i]? = some x ∧ ρ[i]? = some (some d) := by
  induction h with
  | here => exact ⟨0, rfl, rfl⟩
  | there _ ih => obtain ⟨i, h1, h2⟩ := ih; exact ⟨i + 1, by simpa using h1, by simpa using h2⟩
theorem Put.idx {vars ρ x d ρ'} (h : Put vars ρ x d ρ') : ∃ i : Nat, vars[i]? = some x ∧ ρ' = ρ.set i (some d) := by
  induction h with
  | here => exact ⟨0, rfl, rfl⟩
  | there _ ih => obtain ⟨i, h1, h2⟩ := ih; exact ⟨i + 1, by simpa using h1, by simp [h2]⟩
theorem Caps.spec {vars ρ xs ds rs} (h : Caps vars ρ xs ds rs) : rs = ds.map some ∧ ∃ is : List Nat, is.map (vars[·]?) = xs.map some ∧ is.map (ρ[·]?) = ds.map fun d => some (some d) := by
  induction h with
  | nil => exact ⟨rfl, [], rfl, rfl⟩
  | cons a _ ih =>
    obtain ⟨e, is, h1, h2⟩ := ih
    obtain ⟨i, h3, h4⟩ := a.idx
    exact ⟨by rw [e]; rfl, i :: is, by simp [h1, h3], by simp [h2, h4]⟩
theorem Less.spec {a b} (h : Less a b) : ∀ (i : Nat) (d : D), a[i]? = some (some d) → b[i]? = some (some d) := by
  induction h with
  | nil => intro i d h; simp at h
  | same _ ih => intro i d h; cases i with
    | zero => simpa using h
    | succ i => simpa using ih i d (by simpa using h)
  | off _ ih => intro i d h; cases i with
    | zero => simp at h
    | succ i => simpa using ih i d (by simpa using h)
  | «end» _ ih => intro i d h; cases i with
    | zero => simp at h
    | succ i => have := ih i d (by simpa using h); simp at this

inductive PutL (vars : List Str) : List (Option D) → List Str → List D → List (Option D) → Prop
  | nil {ρ} : PutL vars ρ [] [] ρ
  | cons {x xs d ds ρ ρ' ρ''} : Put vars ρ x d ρ' → PutL vars ρ' xs ds ρ'' → PutL vars ρ (x :: xs) (d :: ds) ρ''
theorem PutL.idx {vars ρ xs ds ρ'} (h : PutL vars ρ xs ds ρ') : ∃ is : List Nat, is.map (vars[·]?) = xs.map some ∧ ρ' = sets is ds ρ ∧ xs.length = ds.length := by
  induction h with
  | nil => exact ⟨[], rfl, rfl, rfl⟩
  | cons a _ ih =>
    obtain ⟨is, h1, h2, h3⟩ := ih
    obtain ⟨i, h4, rfl⟩ := a.idx
    exact ⟨i :: is, by simp [h1, h4], by rw [h2]; rfl, by simp [h3]⟩
theorem nodup_idx : ∀ {l : List Str} {i j : Nat} {x : Str}, l.Nodup → l[i]? = some x → l[j]? = some x → i = j
  | [], i, _, _, _, h, _ => by simp at h
  | y :: l, 0, 0, _, _, _, _ => rfl
  | y :: l, 0, j + 1, x, nd, h1, h2 => by
    simp only [List.getElem?_cons_zero, Option.some.injEq] at h1
    rw [List.getElem?_cons_succ] at h2
    exact absurd (List.mem_of_getElem? h2) (h1 ▸ (List.nodup_cons.mp nd).1)
  | y :: l, i + 1, 0, x, nd, h1, h2 => by
    simp only [List.getElem?_cons_zero, Option.some.injEq] at h2
    rw [List.getElem?_cons_succ] at h1
    exact absurd (List.mem_of_getElem? h1) (h2 ▸ (List.nodup_cons.mp nd).1)
  | y :: l, i + 1, j + 1, x, nd, h1, h2 => by
    rw [List.getElem?_cons_succ] at h1 h2
    rw [nodup_idx (List.nodup_cons.mp nd).2 h1 h2]

section
variable {hS : Heap} {prog : Program} {w : World} {n : Nat}
variable {W : Wd hS} {sc : Scope} {vars : List Str} {ρ ρ' : List (Option D)} {st st₁ st₂ st₃ : W.σ}

theorem EV.var {x : Str} {pos : Pos} {d : D} (h : At vars ρ x d) (hb : (x == ("__debug__" : Str)) = false := by decide +kernel) : EV prog w n W sc vars ρ st (.Name x pos) d st := by
  obtain ⟨i, h1, h2⟩ := h.idx
  exact .name i h1 h2 hb
theorem EV.strS {x : Str} {k pos} : EV prog w n W sc vars ρ st (.Constant (.str x) k pos) (.str (S x.cps.toList)) st := .str _ (S_cps x).symm

theorem EX.set {x : Str} {e : Expr} {p pos : Pos} {rest : List Stmt} {d : D} {o : Out W.σ} (h : EV prog w n W sc vars ρ st e d st₁) (hp : Put vars ρ x d ρ')
    (hr : EX prog w n W sc vars ρ' st₁ rest o) (nd : vars.Nodup := by decide +kernel) (hsw : ∀ env, Fits sc env → swapsWith e (some (.Name x p)) pos.line env = pure false := by intro _ _; rfl) :
    EX prog w n W sc vars ρ st (.Assign [.Name x p] e pos :: rest) o := by
  obtain ⟨i, h1, rfl⟩ := hp.idx
  exact .assign i nd h1 h hr hsw
theorem EX.augS {x : Str} {op : Operator} {e : Expr} {p pos : Pos} {rest : List Stmt} {d0 d d' : D} {o : Out W.σ} (ha : At vars ρ x d0) (h : EV prog w n W sc vars ρ st e d st₁)
    (ho : Op hS prog w n (Inp op) [d0, d] d') (hp : Put vars ρ x d' ρ') (hr : EX prog w n W sc vars ρ' st₁ rest o) (nd : vars.Nodup := by decide +kernel) :
    EX prog w n W sc vars ρ st (.AugAssign (.Name x p) op e pos :: rest) o := by
  obtain ⟨i, h1, rfl⟩ := hp.idx
  obtain ⟨j, h2, h3⟩ := ha.idx
  have : i = j := nodup_idx nd h1 h2
  subst this
  exact .aug i nd h1 h3 h ho hr

theorem execs_append (env : Env) (b : List Stmt) : ∀ a : List Stmt, execs (a ++ b) env = (execs a env >>= fun f => match f with | .next => execs b env | f => pure f)
  | [] => rfl
  | x :: a => by
    rw [List.cons_append, execs_cons, execs_cons, bind_assoc]
    congr 1
    funext f
    cases f with
    | next => exact execs_append env b a
    | _ => rfl
theorem EX.if_ {t : Expr} {body orelse rest : List Stmt} {pos : Pos} {b : Bool} {o : Out W.σ} (ht : ET prog w n W sc vars ρ st t b st₁)
    (h1 : b = true → EX prog w n W sc vars ρ st₁ (body ++ rest) o) (h2 : b = false → EX prog w n W sc vars ρ st₁ (orelse ++ rest) o) :
    EX prog w n W sc vars ρ st (.If t body orelse pos :: rest) o := fun A env U s r f I hs => by
  have e : execs (.If t body orelse pos :: rest) env = (standAt pos >>= fun _ => isTrue t env (eval t env) >>= fun c => execs ((if c = true then body else orelse) ++ rest) env) := by
    rw [execs_cons, exec_If, bind_assoc]
    congr 1
    funext _
    rw [bind_assoc]
    congr 1
    funext c
    cases c
    · exact (execs_append env rest orelse).symm
    · exact (execs_append env rest body).symm
  rw [e]
  refine wpAny_bind (wpAny_standAt (wpAny_bind (wpAny_mono (ht A env U s r f I) (fun c s1 q => ?_) fun _ _ x => x)))
  obtain ⟨x1, q1, rfl⟩ := q
  have I1 := I.step x1 q1
  cases c with
  | true => exact wpAny_mono (h1 rfl A env U s1 r f I1 hs) (fun _ _ z => ⟨(may_mut x1).trans z.1, z.2⟩) fun _ _ x => x
  | false => exact wpAny_mono (h2 rfl A env U s1 r f I1 hs) (fun _ _ z => ⟨(may_mut x1).trans z.1, z.2⟩) fun _ _ x => x

/-! loops whose body always goes on -/
theorem loopF_inl {α β γ : Type} (f : β → α → β) : ∀ (l : List α) (b : β), loopF (γ := γ) (fun b x => .inl (f b x)) b l = .inl (l.foldl f b)
  | [], b => rfl
  | x :: l, b => loopF_inl f l (f b x)
theorem EX.fold {α β : Type} {target iter : Expr} {body rest : List Stmt} {pos : Pos} {o : Out W.σ} (tx : List Str) (xs : List α) (g : α → D) (f : β → α → β) (b₀ : β) (ρof : β → List (Option D)) (ρ1 : β → α → List (Option D)) (sof : β → W.σ) (Ok : β → List α → Prop)
    (hsrc : EVit prog w n W sc vars ρ st iter (xs.map g) (sof b₀)) (hρ : Less (ρof b₀) ρ) (h0 : Ok b₀ xs) (htx : ∀ x ∈ tx, x ∈ vars)
    (hturn : ∀ b x post, Ok b (x :: post) → AS prog w W sc vars tx target (g x) (ρof b) (ρ1 b x) ∧ Ok (f b x) post ∧ ∃ ρ', (EX prog w n W sc vars (ρ1 b x) (sof b) body (.next ρ' (sof (f b x))) ∨ EX prog w n W sc vars (ρ1 b x) (sof b) body (.cont ρ' (sof (f b x)))) ∧ Less (ρof (f b x)) ρ')
    (hend : ∀ b, b = xs.foldl f b₀ → EX prog w n W sc vars (ρof b) (sof b) rest o)
    (hfs : ∀ env x, foldedSetIterable iter env x = pure x := by intro _ _; rfl) : EX prog w n W sc vars ρ st (.For target iter body [] pos :: rest) o :=
  EX.for_ tx xs g ρof sof ρ1 (fun b x => .inl (f b x)) b₀ Ok hsrc hρ.spec h0 htx (fun b x post ok => by
    obtain ⟨h1, h2, ρ', h3, h4⟩ := hturn b x post ok
    refine ⟨h1, fun b' e => ?_, fun r e => by cases e⟩
    cases e
    refine ⟨h2, ?_⟩
    rcases h3 with h3 | h3
    · exact ⟨_, ρ', h3, .inl rfl, h4.spec⟩
    · exact ⟨_, ρ', h3, .inr rfl, h4.spec⟩)
    (fun b e => by rw [loopF_inl] at e; cases e; exact hend _ rfl) (fun r e => by rw [loopF_inl] at e; cases e) hfs

/-! targets -/
theorem AS.var {x : Str} {p : Pos} {d : D} (h : Put vars ρ x d ρ') (nd : vars.Nodup := by decide +kernel) : AS prog w W sc vars [x] (.Name x p) d ρ ρ' := by
  obtain ⟨i, h1, rfl⟩ := h.idx
  exact AS.name i nd h1
theorem AS.tup (xs : List Str) (ps : List Pos) {k : Nat} {pos : Pos} {ds : List D} (h : PutL vars ρ xs ds ρ') (hl : xs.length = ps.length := by rfl) (nd : vars.Nodup := by decide +kernel) :
    AS prog w W sc vars xs (.Tuple (nameList xs ps) k pos) (.tuple ds) ρ ρ' := by
  obtain ⟨is, h1, rfl, h3⟩ := h.idx
  exact AS.tuple is xs ps nd h1 hl h3
theorem AS.lst (xs : List Str) (ps : List Pos) {k : Nat} {pos : Pos} {ds : List D} (h : PutL vars ρ xs ds ρ') (hl : xs.length = ps.length := by rfl) (nd : vars.Nodup := by decide +kernel) :
    AS prog w W sc vars xs (.Tuple (nameList xs ps) k pos) (.list ds) ρ ρ' := by
  obtain ⟨is, h1, rfl, h3⟩ := h.idx
  exact AS.list is xs ps nd h1 hl h3
theorem EX.setT {xs : List Str} {es : List Expr} {k : Nat} {p : Pos} {e : Expr} {pos : Pos} {rest : List Stmt} {d : D} {o : Out W.σ} (h : EV prog w n W sc vars ρ st e d st₁)
    (ha : AS prog w W sc vars xs (.Tuple es k p) d ρ ρ') (hr : EX prog w n W sc vars ρ' st₁ rest o) (hxs : ∀ x ∈ xs, x ∈ vars := by decide +kernel)
    (hsw : ∀ env, swapsWithSole [.Tuple es k p] e pos.line env = pure false := by intro _; rfl) (hw : ∀ env, swappedStores [.Tuple es k p] e env = pure none := by intro _; rfl) :
    EX prog w n W sc vars ρ st (.Assign [.Tuple es k p] e pos :: rest) o := .assignT h ha hxs hr hsw hw

/-! comprehensions that change nothing -/
theorem EV.map {α : Type} {elt iter : Expr} {scope : Scope} {pos : Pos} {x : Str} {p : Pos} {capd : List D} {capr : List (Option D)} (capn : List Str) (xs : List α) (g f : α → D) 
    (hsrc : EVit prog w n W sc vars ρ st iter (xs.map g) st) (hc : Caps vars ρ capn capd capr) 
    (helt : ∀ a ∈ xs, EV prog w n W (relabelS scope sc) (x :: capn) (some (g a) :: capr) st elt (f a) st) (hsz : xs.length ≤ 1000000) (hok : scopeOk scope sc [x] capn = true := by decide +kernel) (nd : (x :: capn).Nodup := by decide +kernel)
    (hfs : ∀ env x, foldedSetIterable iter env x = pure x := by intro _ _; rfl) :
    EV prog w n W sc vars ρ st (.ListComp elt [⟨.Name x p, iter, [], 0⟩] scope pos) (.list (xs.map f)) st := by
  obtain ⟨rfl, is, h1, h2⟩ := hc.spec
  have := EV.comp (prog := prog) (w := w) (n := n) (elt := elt) (target := .Name x p) (ifs := []) (pos := pos) [x] capn is capd xs g (fun a => [g a]) (fun _ => true) f (fun _ => st) hok h1 h2 hsz hsrc
    (fun a _ => AS.var .here nd) (fun _ _ => rfl)
    (fun pre a post e => ⟨st, .nil, fun _ => helt a (by rw [e]; simp), fun h => by cases h⟩) hfs
  have e : xs.filter (fun _ => true) = xs := by simp
  rw [e] at this
  exact this
end
end
section
structure Tr (p : Prop) : Prop where
  h : p
structure Dk (p : Prop) : Prop where
  h : p
noncomputable def fdBody : Stmt → List Stmt
  | .FunctionDef _ _ b _ _ _ _ _ _ _ => b
  | .ClassDef _ _ _ b _ _ _ _ _ _ _ => b
  | _ => []
noncomputable def fdScope : Stmt → Scope
  | .FunctionDef _ _ _ _ _ _ s _ _ _ => s
  | .ClassDef _ _ _ _ _ _ s _ _ _ _ => s
  | _ => default
noncomputable def nthS : List Stmt → Nat → Stmt
  | [], _ => .Pass default
  | x :: _, 0 => x
  | _ :: r, k + 1 => nthS r k
noncomputable def top (k : Nat) : Stmt := nthS PySem.Challenge.pw_tp0011_01.main.body k

section
variable {hS : Heap} {prog : Program} {w : World} {n : Nat}
variable {W : Wd hS} {sc : Scope} {vars : List Str} {ρ ρ' : List (Option D)} {st st₁ st₂ st₃ : W.σ}

theorem EVs.len {es : List Expr} {ds : List D} (h : EVs prog w n W sc vars ρ st es ds st₁) : ds.length = es.length := by
  induction h with
  | nil => rfl
  | cons _ _ _ ih => simp [ih]
theorem aN {x : Str} {pos : Pos} {d : D} (h : At vars ρ x d) (hb : Dk ((x == ("__debug__" : Str)) = false)) : EV prog w n W sc vars ρ st (.Name x pos) d st := .var h hb.h
theorem aB {x : Str} {pos : Pos} {v : Value} (g : Blt hS x v) (hb : Dk (sc.names.lookup x = some .globalImplicit ∧ (x == ("__debug__" : Str)) = false)) : EV prog w n W sc vars ρ st (.Name x pos) (.raw v) st := .blt g hb.h.1 hb.h.2
theorem aG {x : Str} {pos : Pos} {v : Value} (g : Glb hS x v) (hb : Dk (sc.names.lookup x = some .globalImplicit ∧ (x == ("__debug__" : Str)) = false)) : EV prog w n W sc vars ρ st (.Name x pos) (.raw v) st := .glob g hb.h.1 hb.h.2
theorem aBin {l r : Expr} {op : Operator} {pos : Pos} {d1 d2 d : D} (h1 : EV prog w n W sc vars ρ st l d1 st₁) (h2 : EV prog w n W sc vars ρ st₁ r d2 st₂)
    (ho : Op hS prog w n (Bin op) [d1, d2] d) : EV prog w n W sc vars ρ st (.BinOp l op r pos) d st₂ := h1.binop h2 ho
noncomputable abbrev Sub (value slice : Expr) : List Value → Sem Value := fun vs => match vs with | [a, b] => subscriptTail value slice a b | _ => pure .none
theorem aItem {value slice : Expr} {pos : Pos} {d1 d2 d : D} (h1 : EV prog w n W sc vars ρ st value d1 st₁) (h2 : EV prog w n W sc vars ρ st₁ slice d2 st₂)
    (ho : Op hS prog w n (Sub value slice) [d1, d2] d) : EV prog w n W sc vars ρ st (.Subscript value slice pos) d st₂ := h1.item h2 ho
theorem oLitem {value slice : Expr} {ds : List D} {k : Int} {d : D} (h : 0 ≤ k ∧ k < 2 ^ 63 ∧ ds[k.toNat]? = some d) (hs : Tr (∀ o i, subscripted slice false o i = operate [o, i] (getItem o i))) : Op hS prog w n (Sub value slice) [.list ds, .int k] d := op_litem h.1 h.2.1 h.2.2 hs.h
theorem oTitem {value slice : Expr} {ds : List D} {k : Int} {d : D} (h : 0 ≤ k ∧ k < 2 ^ 63 ∧ ds[k.toNat]? = some d) (hs : Tr (∀ o i, subscripted slice false o i = operate [o, i] (getItem o i))) : Op hS prog w n (Sub value slice) [.tuple ds, .int k] d := op_titem h.1 h.2.1 h.2.2 hs.h
theorem oSitem {value slice : Expr} {p : List Nat} {k : Int} {c : Nat} (h : 0 ≤ k ∧ k < 2 ^ 63 ∧ p[k.toNat]? = some c) (hs : Tr (∀ o i, subscripted slice false o i = operate [o, i] (getItem o i))) : Op hS prog w n (Sub value slice) [.str (S p), .int k] (.str (S [c])) := op_sitem h.1 h.2.1 h.2.2 hs.h
theorem aC {l r : Expr} {op : CmpOp} {pos : Pos} {d1 d2 d : D} (h1 : EV prog w n W sc vars ρ st l d1 st₁) (h2 : EV prog w n W sc vars ρ st₁ r d2 st₂)
    (ho : Op hS prog w n (Cmp op) [d1, d2] d) (hm : Tr (behindInMarks op r = false)) : EV prog w n W sc vars ρ st (.Compare l [op] [r] pos) d st₂ := h1.cmp h2 ho hm.h
theorem tC {l r : Expr} {op : CmpOp} {pos : Pos} {d1 d2 : D} {b : Bool} (h1 : EV prog w n W sc vars ρ st l d1 st₁) (h2 : EV prog w n W sc vars ρ st₁ r d2 st₂)
    (ho : Op hS prog w n (Cmp op) [d1, d2] (.bool b)) (hm : Tr (behindInMarks op r = false)) : ET prog w n W sc vars ρ st (.Compare l [op] [r] pos) b st₂ := ET.cmp h1 h2 ho hm.h
theorem aL {es : List Expr} {ds : List D} {pos : Pos} (q : EVs prog w n W sc vars ρ st es ds st₁) (hsz : Dk (es.length ≤ 1000000)) : EV prog w n W sc vars ρ st (.List es pos) (.list ds) st₁ := .list q (by rw [q.len]; exact hsz.h)
theorem aT {es : List Expr} {ds : List D} {k : Nat} {pos : Pos} (q : EVs prog w n W sc vars ρ st es ds st₁) (hsz : Dk (es.length ≤ 1000000)) : EV prog w n W sc vars ρ st (.Tuple es k pos) (.tuple ds) st₁ := .tuple q (by rw [q.len]; exact hsz.h)
theorem aS {e : Expr} {es : List Expr} {d : D} {ds : List D} (h : EV prog w n W sc vars ρ st e d st₁) (q : EVs prog w n W sc vars ρ st₁ es ds st₂) (he : Tr (∀ env, starEach (e :: es) env = (false, eval e env) :: starEach es env)) :
    EVs prog w n W sc vars ρ st (e :: es) (d :: ds) st₂ := .cons h q he.h
theorem aSet {x : Str} {e : Expr} {p pos : Pos} {rest : List Stmt} {d : D} {o : Out W.σ} (h : EV prog w n W sc vars ρ st e d st₁) (hp : Put vars ρ x d ρ') (hr : EX prog w n W sc vars ρ' st₁ rest o)
    (nd : Dk vars.Nodup) (hsw : Tr (∀ env, Fits sc env → swapsWith e (some (.Name x p)) pos.line env = pure false)) : EX prog w n W sc vars ρ st (.Assign [.Name x p] e pos :: rest) o := .set h hp hr nd.h hsw.h
theorem aAug {x : Str} {op : Operator} {e : Expr} {p pos : Pos} {rest : List Stmt} {d0 d d' : D} {o : Out W.σ} (ha : At vars ρ x d0) (h : EV prog w n W sc vars ρ st e d st₁)
    (ho : Op hS prog w n (Inp op) [d0, d] d') (hp : Put vars ρ x d' ρ') (hr : EX prog w n W sc vars ρ' st₁ rest o) (nd : Dk vars.Nodup) :
    EX prog w n W sc vars ρ st (.AugAssign (.Name x p) op e pos :: rest) o := .augS ha h ho hp hr nd.h
theorem aRet {e : Expr} {pos : Pos} {rest : List Stmt} {d d' : D} (h : EV prog w n W sc vars ρ st e d st₁) (e' : d = d') : EX prog w n W sc vars ρ st (.Return (some e) pos :: rest) (.ret d' st₁) := e' ▸ EX.ret h
theorem EX.stay {ss : List Stmt} {o : Out W.σ} (h : EX prog w n W sc vars ρ st ss o) : EX prog w n W sc vars ρ st ss o := h
theorem EV.stay {e : Expr} {d : D} (h : EV prog w n W sc vars ρ st e d st₁) : EV prog w n W sc vars ρ st e d st₁ := h
theorem ET.stay {e : Expr} {d : Bool} (h : ET prog w n W sc vars ρ st e d st₁) : ET prog w n W sc vars ρ st e d st₁ := h
theorem EVs.stay {e : List Expr} {d : List D} (h : EVs prog w n W sc vars ρ st e d st₁) : EVs prog w n W sc vars ρ st e d st₁ := h
theorem Op.stay {t : List Value → Sem Value} {ds : List D} {d : D} (h : Op hS prog w n t ds d) : Op hS prog w n t ds d := h
theorem aIf {t : Expr} {body orelse rest : List Stmt} {pos : Pos} {b : Bool} {o : Out W.σ} (ht : ET prog w n W sc vars ρ st t b st₁)
    (h1 : b = true → EX prog w n W sc vars ρ st₁ (body ++ rest) o) (h2 : b = false → EX prog w n W sc vars ρ st₁ (orelse ++ rest) o) :
    EX prog w n W sc vars ρ st (.If t body orelse pos :: rest) o := EX.if_ ht h1 h2
end
end
section
structure Fn (hS : Heap) (x : Str) (a : Addr) (k : Nat) (ps : List Str) : Prop where
  at_ : FnAt hS a (fdScope (top k)) ps (fdBody (top k))
  glb : Glb hS x (.ref a)

structure Base (hS : Heap) : Prop where
  lim : hS.NoLimit
  max : Blt hS "max" (.builtin "max")
  min : Blt hS "min" (.builtin "min")
  round : Blt hS "round" (.builtin "round")
  ord : Blt hS "ord" (.builtin "ord")
  chr : Blt hS "chr" (.builtin "chr")
  len : Blt hS "len" (.builtin "len")
  sum : Blt hS "sum" (.builtin "sum")
  iter : Blt hS "iter" (.builtin "iter")
  int : Blt hS "int" (.type "int")
  range : Blt hS "range" (.type "range")
  list : Blt hS "list" (.type "list")
  enumerate : Blt hS "enumerate" (.type "enumerate")
  rgb : Fn hS "rgb_to_hsv" 21 1 ["r", "g", "b"]
  hsv : Fn hS "hsv_to_rgb" 28 2 ["h", "s", "v"]
  esc : Fn hS "_iter_escaped_chars" 35 4 ["addr"]
  strip : Fn hS "_strip_quoted_realnames" 42 5 ["addr"]
  check : Fn hS "_check_parenthesis" 49 6 ["addr"]
  stream : Fn hS "_law_stream" 98 10 ["signs"]
  places : Fn hS "_law_places" 103 11 ["heap"]
  word : Fn hS "_law_word" 110 12 ["hue", "share", "top"]
  text : Fn hS "_law_text" 115 13 ["words"]
  told : Fn hS "_law_told" 122 14 ["word"]
  due : Fn hS "_law_due" 127 15 ["hues", "shares", "tops"]
  painted : Fn hS "_law_painted" 132 16 ["hue", "share", "top"]
  line : Fn hS "_law_line" 137 17 ["lexer", "coming", "counters"]
  takes : Fn hS "_law_takes" 144 18 ["ring", "coming"]
  changed : Fn hS "_law_changed" 151 19 ["ring", "k"]

section
variable {hS : Heap} {prog : Program} {w : World} {n : Nat}
variable {W : Wd hS} {sc : Scope} {vars : List Str} {ρ ρ' : List (Option D)} {st st₁ st₂ st₃ : W.σ}

theorem fun_okLC {a : Addr} {ps : List Str} {body : List Stmt} {ds : List D} {d : D} {ρ0 : List (Option D)} (k : Nat) (hl : hS.NoLimit) (F : FnAt hS a sc ps body) (hlen : ds.length = ps.length) (hρ : ρ0 = ds.map some ++ List.replicate k none)
    (hok : fnOk sc vars ps = true) (hbody : EX prog w n W sc vars ρ0 st body (.ret d st₁)) : OpC W prog w (n + 1) st a ds d st₁ := by
  refine fun_okC (.inl rfl) hl F hok hlen (EX.weak hbody fun i d h => ?_)
  rw [hρ] at h
  rw [List.getElem?_append] at h
  split at h
  · exact h
  · rw [List.getElem?_replicate] at h
    split at h <;> cases h
theorem fun_okLW {a : Addr} {ps : List Str} {body : List Stmt} {ds : List D} {d : D} {ρ0 : List (Option D)} (k : Nat) (hl : hS.NoLimit) (F : FnAt hS a sc ps body) (hlen : ds.length = ps.length) (hρ : ρ0 = ds.map some ++ List.replicate k none)
    (hok : fnOk sc vars ps = true) (hbody : EX prog w n W sc vars ρ0 st body (.ret d st₁)) : OpW W prog w (n + 1) st (Call (.ref a)) ds d st₁ := by
  refine fun_okW hl F hok hlen (EX.weak hbody fun i d h => ?_)
  rw [hρ] at h
  rw [List.getElem?_append] at h
  split at h
  · exact h
  · rw [List.getElem?_replicate] at h
    split at h <;> cases h
theorem fun_okLN {a : Addr} {ps : List Str} {body : List Stmt} {ds : List D} {ρ0 : List (Option D)} (k : Nat) (hl : hS.NoLimit) (F : FnAt hS a sc ps body) (hlen : ds.length = ps.length) (hρ : ρ0 = ds.map some ++ List.replicate k none)
    (hok : fnOk sc vars ps = true) (hbody : EX prog w n W sc vars ρ0 st body (.next ρ' st₁)) : OpW W prog w (n + 1) st (Call (.ref a)) ds .none st₁ := by
  refine fun_okO (.inr ⟨ρ', rfl, rfl⟩) hl F hok hlen (EX.weak hbody fun i d h => ?_)
  rw [hρ] at h
  rw [List.getElem?_append] at h
  split at h
  · exact h
  · rw [List.getElem?_replicate] at h
    split at h <;> cases h
theorem fun_okL {a : Addr} {ps : List Str} {body : List Stmt} {ds : List D} {d : D} {ρ0 : List (Option D)} (k : Nat) (hl : hS.NoLimit) (F : FnAt hS a sc ps body) (hlen : ds.length = ps.length) (hρ : ρ0 = ds.map some ++ List.replicate k none)
    (hok : fnOk sc vars ps = true) (hbody : EX prog w n (Wd.still hS) sc vars ρ0 () body (.ret d ())) : Op hS prog w (n + 1) (Call (.ref a)) ds d := (fun_okLW k hl F hlen hρ hok hbody).pure
end
end
section
/-! values that compare as data -/
mutual
noncomputable def py : D → PyData
  | .none => .none
  | .bool b => .bool b
  | .int i => .int i
  | .str x => .str x
  | .list ds => .list (pys ds)
  | .tuple ds => .tuple (pys ds)
  | .float _ => .none
  | .raw _ => .none
noncomputable def pys : List D → List PyData
  | [] => []
  | d :: ds => py d :: pys ds
end
mutual
noncomputable def isPy : D → Bool
  | .float _ => false
  | .raw _ => false
  | .str x => PyData.strOk x
  | .list ds => isPys ds
  | .tuple ds => isPys ds
  | _ => true
noncomputable def isPys : List D → Bool
  | [] => true
  | d :: ds => isPy d && isPys ds
end
mutual
theorem Rep.reads {U : Addr → Prop} {h : Heap} {v : Value} : ∀ {d : D}, Rep U h v d → isPy d = true → ∃ as, Reads h v (py d) as
  | .none, r, _ => by cases r; exact ⟨_, .none⟩
  | .bool _, r, _ => by cases r; exact ⟨_, .bool _⟩
  | .int _, r, _ => by cases r; exact ⟨_, .int _ _⟩
  | .str _, r, _ => by cases r; exact ⟨_, .str _ _⟩
  | .float _, r, e => by simp [isPy] at e
  | .raw _, r, e => by simp [isPy] at e
  | .list ds, r, e => by
    obtain ⟨a, vs, rfl, _, ⟨m, ho⟩, rs⟩ := r.of_list
    obtain ⟨as, q⟩ := rs.reads (by simpa [isPy] using e)
    exact ⟨a :: as, .list ho rfl rfl q⟩
  | .tuple ds, r, e => by
    obtain ⟨a, vs, rfl, _, ⟨o, ho, hc, m, hd⟩, rs⟩ := r.of_tuple
    obtain ⟨as, q⟩ := rs.reads (by simpa [isPy] using e)
    exact ⟨as, .tuple ho hc hd q⟩
theorem Reps.reads {U : Addr → Prop} {h : Heap} : ∀ {vs : List Value} {ds : List D}, Reps U h vs ds → isPys ds = true → ∃ as, ReadsAll h vs (pys ds) as
  | _, [], r, _ => by cases r; exact ⟨_, .nil⟩
  | _, d :: ds, r, e => by
    simp only [isPys, Bool.and_eq_true] at e
    cases r with
    | cons r1 r2 =>
      obtain ⟨as, q1⟩ := r1.reads e.1
      obtain ⟨bs, q2⟩ := r2.reads e.2
      exact ⟨_, .cons q1 q2⟩
end
mutual
theorem canLay_py : ∀ d : D, isPy d = true → (py d).canLay0 = true
  | .none, _ => rfl
  | .bool _, _ => rfl
  | .int _, _ => rfl
  | .str _, e => by simpa [isPy, py, PyData.canLay0] using e
  | .float _, e => by simp [isPy] at e
  | .raw _, e => by simp [isPy] at e
  | .list ds, e => canLay_pys ds e
  | .tuple ds, e => canLay_pys ds e
theorem canLay_pys : ∀ ds : List D, isPys ds = true → PyData.canLayAll0 (pys ds) = true
  | [], _ => rfl
  | d :: ds, e => by
    simp only [isPys, Bool.and_eq_true] at e
    simp only [pys, PyData.canLayAll0, canLay_py d e.1, canLay_pys ds e.2, Bool.and_self]
end
mutual
theorem eqv_self : ∀ d : PyData, d.canLay0 = true → PyData.eqv d d = true
  | .none, _ => rfl
  | .bool b, _ => by simp [PyData.eqv]
  | .int _, _ => by simp [PyData.eqv]
  | .str _, _ => by simp [PyData.eqv]
  | .list ds, e => eqvAll_self ds e
  | .tuple ds, e => eqvAll_self ds e
  | .dict _, e => by simp [PyData.canLay0] at e
theorem eqvAll_self : ∀ ds : List PyData, PyData.canLayAll0 ds = true → PyData.eqvAll ds ds = true
  | [], _ => rfl
  | d :: ds, e => by
    simp only [PyData.canLayAll0, Bool.and_eq_true] at e
    simp only [PyData.eqvAll, eqv_self d e.1, eqvAll_self ds e.2, Bool.and_self]
end
theorem eqvAll_ints : ∀ a b : List Int, PyData.eqvAll (pys (a.map .int)) (pys (b.map .int)) = (a == b)
  | [], [] => rfl
  | [], _ :: _ => rfl
  | _ :: _, [] => rfl
  | x :: a, y :: b => by
    simp only [List.map_cons, pys, py, PyData.eqvAll, PyData.eqv, eqvAll_ints a b]
    rfl
theorem isPys_ints : ∀ a : List Int, isPys (a.map .int) = true
  | [] => rfl
  | x :: a => by simp only [List.map_cons, isPys, isPy, isPys_ints a, Bool.and_self]
theorem depthAll_ints : ∀ a : List Int, PyData.depthAll (pys (a.map .int)) = 0
  | [] => rfl
  | x :: a => by simp only [List.map_cons, pys, py, PyData.depthAll, PyData.depth, depthAll_ints a]; rfl

section
variable {hS : Heap} {prog : Program} {w : World} {n : Nat}
theorem op_deq {a b : D} (ha : isPy a = true) (hb : isPy b = true) (hd : (py a).depth ≤ 30) : Op hS prog w n (Cmp .Eq) [a, b] (.bool (PyData.eqv (py a) (py b))) := .cmp fun A U s v1 v2 rm h1 h2 => by
  obtain ⟨as, q1⟩ := h1.reads ha
  obtain ⟨bs, q2⟩ := h2.reads hb
  have := rm.units
  exact SeqAt.eqOverData prog w A _ s v1 v2 _ _ as bs _ q1 q2 (canLay_py _ ha) (canLay_py _ hb) (by omega) ⟨.refl _ _, .bool _⟩
theorem op_dne {a b : D} (ha : isPy a = true) (hb : isPy b = true) (hd : (py a).depth ≤ 30) : Op hS prog w n (Cmp .NotEq) [a, b] (.bool (!PyData.eqv (py a) (py b))) := .cmp fun A U s v1 v2 rm h1 h2 => by
  obtain ⟨as, q1⟩ := h1.reads ha
  obtain ⟨bs, q2⟩ := h2.reads hb
  have := rm.units
  exact SeqAt.neOverData prog w A _ s v1 v2 _ _ as bs _ q1 q2 (canLay_py _ ha) (canLay_py _ hb) (by omega) ⟨.refl _ _, .bool _⟩
/-- equal values are not unequal -/
theorem op_dneS {a b : D} (ha : isPy a = true) (e : a = b) (hd : (py a).depth ≤ 30) : Op hS prog w n (Cmp .NotEq) [a, b] (.bool false) := by
  subst e
  have := op_dne (hS := hS) (prog := prog) (w := w) (n := n) ha ha hd
  rwa [eqv_self _ (canLay_py _ ha)] at this
theorem op_ieq {a b : List Int} : Op hS prog w n (Cmp .Eq) [dI a, dI b] (.bool (a == b)) := by
  have := op_deq (hS := hS) (prog := prog) (w := w) (n := n) (a := dI a) (b := dI b) (isPys_ints a) (isPys_ints b) (by simp [py, PyData.depth, depthAll_ints])
  rwa [show PyData.eqv (py (dI a)) (py (dI b)) = (a == b) from eqvAll_ints a b] at this
theorem op_inotin {l : List Int} {k : Int} : Op hS prog w n (Cmp .NotIn) [.int k, dI l] (.bool (!l.any fun x => x == k)) := .cmp fun A U s v1 v2 rm h1 h2 => by
  obtain ⟨as, q1⟩ := h1.reads rfl
  obtain ⟨bs, q2⟩ := h2.reads (isPys_ints l)
  have := rm.units
  refine SeqAt.notIn_list_reads q2 q1 (canLay_pys _ (isPys_ints l)) rfl (by simp [depthAll_ints]; omega) ⟨.refl _ _, ?_⟩
  have : ((pys (l.map D.int)).any fun y => PyData.eqv y (py (.int k))) = l.any fun x => x == k := by
    clear q2 h2
    induction l with
    | nil => rfl
    | cons x l ih => simp only [List.map_cons, pys, py, List.any_cons, PyData.eqv, ← ih]
  rw [this]
  exact .bool _
end

/-! parts -/
theorem range_pick {α : Type} (p : List α) (a : Nat) : ∀ m : Nat, a + m ≤ p.length → (List.range m).filterMap (fun k => p[a + k]?) = (p.drop a).take m
  | 0, _ => by simp
  | m + 1, h => by
    rw [List.range_succ, List.filterMap_append, range_pick p a m (by omega), List.take_add_one]
    have : p[a + m]? = some p[a + m] := List.getElem?_eq_getElem (by omega)
    simp [this]
theorem slice_str (p : List Nat) (a b : Nat) (hb : b ≤ p.length) : (sliceRange a b 1).filterMap ((S p).cps[·]?) = (p.drop a).take (b - a) := by
  unfold sliceRange
  by_cases h : a < b
  · have e : ((if (1 : Int) > 0 then (if (a : Int) < b then ((b : Int) - a + 1 - 1) / 1 else 0) else (if (a : Int) > b then ((a : Int) - b - 1 - 1) / (-1) else 0)) : Int).toNat = b - a := by
      rw [if_pos (by decide), if_pos (by omega)]; simp
    simp only [e]
    rw [← range_pick p a (b - a) (by omega), List.filterMap_map]
    congr 1
    funext k
    have : ((a : Int) + (k : Int)).toNat = a + k := by omega
    simp [S, this]
  · have e : ((if (1 : Int) > 0 then (if (a : Int) < b then ((b : Int) - a + 1 - 1) / 1 else 0) else (if (a : Int) > b then ((a : Int) - b - 1 - 1) / (-1) else 0)) : Int).toNat = 0 := by
      rw [if_pos (by decide), if_neg (by omega)]; rfl
    simp only [e]
    have : b - a = 0 := by omega
    rw [this]; simp

/-- a part of a slice -/
inductive EP {hS : Heap} (prog : Program) (w : World) (n : Nat) (W : Wd hS) (sc : Scope) (vars : List Str) (ρ : List (Option D)) : W.σ → Option Expr → Option Int → W.σ → Prop
  | none {st} : EP prog w n W sc vars ρ st Option.none Option.none st
  | int {st st₁ e k} : EV prog w n W sc vars ρ st e (.int k) st₁ → EP prog w n W sc vars ρ st (some e) (some k) st₁

section
variable {hS : Heap} {prog : Program} {w : World} {n : Nat}
variable {W : Wd hS} {sc : Scope} {vars : List Str} {ρ ρ' : List (Option D)} {st st₁ st₂ st₃ st₄ : W.σ}
theorem EP.run {x : Option Expr} {k : Option Int} (h : EP prog w n W sc vars ρ st x k st₁) {A : Around} {env : Env} {U : Addr → Prop} {s : Shared} (r : Room A n) (f : Fits sc env) (I : Stand W U env vars ρ st s) :
    wpAny (model prog w) A (evalPart x env) (fun v s' => Ext W.Mut s s' ∧ W.holds st₁ s' ∧ ∃ q : Option (Int × Tok), v = partValue q ∧ q.map (·.1) = k) (fun _ _ => False) s := by
  cases h with
  | none => rw [evalPart_none]; exact wpAny_pure ⟨.refl _ _, I.hold, Option.none, rfl, rfl⟩
  | int h =>
    rw [evalPart_some]
    refine wpAny_mono (h A env U s r f I) (fun v s' q => ?_) fun _ _ x => x
    obtain ⟨t, rfl⟩ := q.2.2.of_int
    exact ⟨q.1, q.2.1, some (_, t), rfl, rfl⟩
theorem part_is {q : Option (Int × Tok)} : IsPart (partValue q) (q.map (·.1)) := by
  cases q with
  | none => exact .none
  | some p => exact .int _ _
theorem sub_ops (lower upper step : Option Expr) (p : Pos) (o i : Value) : ∃ ops, subscripted (.Slice lower upper step p) false o i = operate ops (getItem o i) := by
  cases step with
  | none => exact ⟨[i, o], rfl⟩
  | some e => exact ⟨[o, i], rfl⟩
/-- a slice: what the parts are, and the getitem behind them -/
theorem EV.sliced {value : Expr} {lower upper step : Option Expr} {p pos : Pos} {d d' : D} {lo hi sp : Option Int} (h : EV prog w n W sc vars ρ st value d st₁) (h1 : EP prog w n W sc vars ρ st₁ lower lo st₂) (h2 : EP prog w n W sc vars ρ st₂ upper hi st₃)
    (h3 : EP prog w n W sc vars ρ st₃ step sp st₄)
    (hg : ∀ {A : Around} {U : Addr → Prop} {s : Shared} {v : Value} {q1 q2 q3 : Option (Int × Tok)} {sl : Addr}, (∀ a, U a → ∃ o, s.heap.get? a = some o) → Rep U s.heap v d → s.heap.IsSliceOf sl (partValue q1) (partValue q2) (partValue q3) → q1.map (·.1) = lo → q2.map (·.1) = hi → q3.map (·.1) = sp →
      wpAny (model prog w) A (getItem v (.ref sl)) (fun r s' => Ext Nowhere s s' ∧ Rep U s'.heap r d') (fun _ _ => False) s)
    (ht : ∃ (T : String) (id : String), typeLookup (.type T) "__getitem__" = pure (some (.builtin id)) ∧ ∀ {U : Addr → Prop} {s : Shared} {v : Value}, Rep U s.heap v d → s.TypeIs v T) :
    EV prog w n W sc vars ρ st (.Subscript value (.Slice lower upper step p) pos) d' st₄ := fun A env U s r f I => by
  refine Subscript_ (wpAny_mono (h A env U s r f I) (fun v s1 z => ?_) fun _ _ x => x)
  obtain ⟨x1, w1, r1⟩ := z
  have I1 := I.step x1 w1
  refine wpAny_Slice (wpAny_mono (h1.run r f I1) (fun vl s2 z => ?_) fun _ _ x => x)
  obtain ⟨x2, w2, q1, rfl, e1⟩ := z
  have I2 := I1.step x2 w2
  refine wpAny_mono (h2.run r f I2) (fun vu s3 z => ?_) fun _ _ x => x
  obtain ⟨x3, w3, q2, rfl, e2⟩ := z
  have I3 := I2.step x3 w3
  refine wpAny_mono (h3.run r f I3) (fun vs s4 z => ?_) fun _ _ x => x
  obtain ⟨x4, w4, q3, rfl, e3⟩ := z
  have I4 := I3.step x4 w4
  have x5 : Ext Nowhere s4 { s4 with heap := s4.heap.push { cls := .type "slice", data := .fields #[partValue q1, partValue q2, partValue q3] } } := ext_push _
  have I5 := I4.step0 x5
  have r5 := (((r1.ext x2 I.mutU).ext x3 I.mutU).ext x4 I.mutU).ext0 x5
  obtain ⟨T, id, hl, hT⟩ := ht
  obtain ⟨ops, ho⟩ := sub_ops lower upper step p v (.ref s4.heap.objs.size)
  refine tail_any (hT r5) hl (wpAny_mono (hg I5.low r5 ⟨_, Heap.get?_push_size _ rfl, rfl, rfl⟩ e1 e2 e3) (fun u s6 z => ?_) fun _ _ x => x) ho
  exact ⟨((((x1.trans x2).trans x3).trans x4).trans x5.any).trans z.1.any, I5.hold0 z.1, z.2⟩

theorem slice_nonneg (a b : Nat) (n : Nat) (hb : b ≤ n) (ha : a ≤ n) : Builtin.Str.strSliceIndices (some (a : Int)) (some (b : Int)) 1 n = sliceRange a b 1 := by
  unfold Builtin.Str.strSliceIndices
  have e1 : ¬ ((a : Int) < 0) := by omega
  have e2 : ¬ ((b : Int) < 0) := by omega
  simp only [if_neg e1, if_neg e2]
  congr 1 <;> simp <;> omega
theorem slice_nonneg' (a : Nat) (n : Nat) (ha : a ≤ n) : Builtin.Str.strSliceIndices (some (a : Int)) none 1 n = sliceRange a n 1 := by
  unfold Builtin.Str.strSliceIndices
  have e1 : ¬ ((a : Int) < 0) := by omega
  simp only [if_neg e1]
  congr 1 <;> simp <;> omega
theorem take_whole (p : List Nat) (a b : Nat) (hb : b ≤ p.length) (h : ((p.drop a).take (b - a)).length = p.length) : (p.drop a).take (b - a) = p := by
  simp at h
  have : p.length = 0 ∨ (a = 0 ∧ b = p.length) := by omega
  rcases this with h0 | ⟨rfl, rfl⟩
  · have : p = [] := List.length_eq_zero_iff.mp h0
    subst this; simp
  · simp
theorem getItem_sslice {A : Around} {U : Addr → Prop} {s : Shared} {v : Value} {p : List Nat} {lo hi : Option Int} {a b : Nat} {q1 q2 q3 : Option (Int × Tok)} {sl : Addr} (hp : p.length ≤ 1000000) (hb : b ≤ p.length)
    (hx : Builtin.Str.strSliceIndices lo hi 1 p.length = sliceRange a b 1) (r : Rep U s.heap v (.str (S p))) (hs : s.heap.IsSliceOf sl (partValue q1) (partValue q2) (partValue q3)) (e1 : q1.map (·.1) = lo) (e2 : q2.map (·.1) = hi) (e3 : q3.map (·.1) = none) :
    wpAny (model prog w) A (getItem v (.ref sl)) (fun r s' => Ext Nowhere s s' ∧ Rep U s'.heap r (.str (S ((p.drop a).take (b - a))))) (fun _ _ => False) s := by
  obtain ⟨t, rfl⟩ := r.of_str
  refine wpAny_getItem_str_slice (l := q1) (u := q2) (st := q3) hs (by rw [e3]; rfl) ?_
  have hpk : slicePicked (S p) q1 q2 q3 = sliceRange a b 1 := by unfold slicePicked; rw [e1, e2, e3, S_length]; exact hx
  unfold sliceMade
  rw [hpk, slice_str p a b hb]
  split
  · rename_i hc
    simp only [Bool.and_eq_true, beq_iff_eq] at hc
    have hl : (sliceRange a b 1).length = (List.range (b - a)).length := by
      unfold sliceRange
      simp only [List.length_map, List.length_range]
      split
      · split <;> simp <;> omega
      · contradiction
    have : (p.drop a).take (b - a) = p := take_whole p a b hb (by
      rw [hl, S_length] at hc
      simp at hc ⊢
      omega)
    rw [this]
    exact ⟨.refl _ _, .str _ _⟩
  · refine ⟨?_, .tok, ?_⟩
    · show (S ((p.drop a).take (b - a))).length ≤ _
      rw [S_length]
      simp
      have : sizeLine = 16777216 := by decide
      omega
    · exact .str _ _
theorem ty_str {p : List Nat} : ∃ (T : String) (id : String), typeLookup (.type T) "__getitem__" = pure (some (.builtin id)) ∧ ∀ {U : Addr → Prop} {s : Shared} {v : Value}, Rep U s.heap v (.str (S p)) → s.TypeIs v T :=
  ⟨"str", _, F.slot_str_getitem.lookup, fun r => by obtain ⟨t, rfl⟩ := r.of_str; rfl⟩
theorem ty_list {ds : List D} : ∃ (T : String) (id : String), typeLookup (.type T) "__getitem__" = pure (some (.builtin id)) ∧ ∀ {U : Addr → Prop} {s : Shared} {v : Value}, Rep U s.heap v (.list ds) → s.TypeIs v T :=
  ⟨"list", _, slot_list_getitem.lookup, fun r => by obtain ⟨a, vs, rfl, _, h, _⟩ := r.of_list; exact h.isList.typeIs⟩
theorem EV.sslice {value e1 e2 : Expr} {p : List Nat} {a b : Nat} {ps pos : Pos} (h : EV prog w n W sc vars ρ st value (.str (S p)) st₁) (h1 : EV prog w n W sc vars ρ st₁ e1 (.int a) st₂) (h2 : EV prog w n W sc vars ρ st₂ e2 (.int b) st₃)
    (hp : p.length ≤ 1000000) (hb : b ≤ p.length) (ha : a ≤ p.length) : EV prog w n W sc vars ρ st (.Subscript value (.Slice (some e1) (some e2) none ps) pos) (.str (S ((p.drop a).take (b - a)))) st₃ :=
  h.sliced (.int h1) (.int h2) .none (fun _ r hs e1 e2 e3 => getItem_sslice hp hb (slice_nonneg a b _ hb ha) r hs e1 e2 e3) ty_str
theorem EV.sslice' {value e1 : Expr} {p : List Nat} {a : Nat} {ps pos : Pos} (h : EV prog w n W sc vars ρ st value (.str (S p)) st₁) (h1 : EV prog w n W sc vars ρ st₁ e1 (.int a) st₂) 
    (hp : p.length ≤ 1000000) (ha : a ≤ p.length) : EV prog w n W sc vars ρ st (.Subscript value (.Slice (some e1) none none ps) pos) (.str (S (p.drop a))) st₂ := by
  have := h.sliced (pos := pos) (p := ps) (.int h1) .none .none (fun _ r hs e1 e2 e3 => getItem_sslice hp (Nat.le_refl _) (slice_nonneg' a _ ha) r hs e1 e2 e3) ty_str
  have e : (p.drop a).take (p.length - a) = p.drop a := List.take_of_length_le (by simp)
  rwa [e] at this
end
end
section
/-! which stores are swapped -/
noncomputable def swB (sc scope : Scope) (t : Str) (p pos : Pos) : Bool := sc.names.lookup t == some .local && p.line == pos.line && !(scope.names.any fun (n, k) => n == t && (k == .local || k == .cell))
theorem swaps_eq {sc scope : Scope} {elt : Expr} {gs : List Comprehension} {pos p : Pos} {t : Str} {line : Nat} {b : Bool} (h : swB sc scope t p pos = b) (env : Env) (f : Fits sc env) :
    swapsWith (.ListComp elt gs scope pos) (some (.Name t p)) line env = pure b := by
  have e1 : env.blockKind = .function := by unfold Env.blockKind; rw [f.scope, f.kind]; rfl
  have e2 : env.kindOf t = sc.names.lookup t := by unfold Env.kindOf; rw [f.scope]
  subst h
  show (pure (env.blockKind == .function && env.kindOf t == some .local && p.line == pos.line && !(scope.names.any fun (n, k) => n == t && (k == .local || k == .cell))) : Sem Bool) = _
  rw [e1, e2]
  unfold swB
  simp [Bool.and_assoc]

section
variable {hS : Heap} {prog : Program} {w : World} {n : Nat}
variable {W : Wd hS} {sc : Scope} {vars : List Str} {ρ ρ' : List (Option D)} {st st₁ st₂ st₃ st₄ : W.σ}

/-- a name for what a comprehension makes: a place that a comprehension captures -/
theorem aSetC {x : Str} {elt : Expr} {gs : List Comprehension} {scope : Scope} {cpos p pos : Pos} {rest : List Stmt} {d : D} {o : Out W.σ} (h : EV prog w n W sc vars ρ st (.ListComp elt gs scope cpos) d st₁) (hp : Put vars ρ x d ρ')
    (hr : EX prog w n W sc vars ρ' st₁ rest o) (nd : vars.Nodup := by decide +kernel) (hsw : swB sc scope x p cpos = false := by decide +kernel) : EX prog w n W sc vars ρ st (.Assign [.Name x p] (.ListComp elt gs scope cpos) pos :: rest) o :=
  .set h hp hr nd fun env f => swaps_eq hsw env f
/-- the same for a place of its own -/
theorem aSetM {α : Type} {y x : Str} {py p spos : Pos} {rest : List Stmt} {o : Out W.σ} {elt iter : Expr} {scope : Scope} {pos : Pos} {capd : List D} {capr : List (Option D)} (capn : List Str) (xs : List α) (g f : α → D) 
    (hsrc : EVit prog w n W sc vars ρ st iter (xs.map g) st) (hc : Caps vars ρ capn capd capr) (helt : ∀ a ∈ xs, EV prog w n W (relabelS scope sc) (x :: capn) (some (g a) :: capr) st elt (f a) st)
    (hp : Put vars ρ y (.list (xs.map f)) ρ') (hr : EX prog w n W sc vars ρ' st rest o) (hsz : xs.length ≤ 1000000) (hok : scopeOk scope sc [x] capn = true := by decide +kernel) (nd : (x :: capn).Nodup := by decide +kernel)
    (nv : vars.Nodup := by decide +kernel) (hsw : swB sc scope y py pos = true := by decide +kernel) (hfs : ∀ env x, foldedSetIterable iter env x = pure x := by intro _ _; rfl) :
    EX prog w n W sc vars ρ st (.Assign [.Name y py] (.ListComp elt [⟨.Name x p, iter, [], 0⟩] scope pos) spos :: rest) o := by
  obtain ⟨rfl, is, h1, h2⟩ := hc.spec
  obtain ⟨i, hy, rfl⟩ := hp.idx
  have e : xs.filter (fun _ => true) = xs := by simp
  refine EX.assignComp i [x] capn is capd xs g (fun a => [g a]) (fun _ => true) f (fun _ => st) nv hy (fun env f => swaps_eq hsw env f) hok h1 h2 hsz hsrc
    (fun a _ => AS.var .here nd) (fun _ _ => rfl)
    (fun pre a post e => ⟨st, .nil, fun _ => helt a (by rw [e]; simp), fun h => by cases h⟩) (by rw [e]; exact hr) hfs

/-! with tuples as targets, and with a test -/
theorem EV.mapT {α : Type} {elt iter : Expr} {scope : Scope} {pos : Pos} {k : Nat} {tp : Pos} {capd : List D} {capr : List (Option D)} (tn : List Str) (ps : List Pos) (capn : List Str) (xs : List α) (g : α → D) (tds : α → List D) (f : α → D)
    (hsrc : EVit prog w n W sc vars ρ st iter (xs.map g) st) (hc : Caps vars ρ capn capd capr) (hg : ∀ a ∈ xs, g a = .tuple (tds a) ∨ g a = .list (tds a))
    (hput : ∀ a ∈ xs, PutL (tn ++ capn) (tn.map (fun _ => none) ++ capr) tn (tds a) ((tds a).map some ++ capr))
    (helt : ∀ a ∈ xs, EV prog w n W (relabelS scope sc) (tn ++ capn) ((tds a).map some ++ capr) st elt (f a) st) (hsz : xs.length ≤ 1000000) (hok : scopeOk scope sc tn capn = true := by decide +kernel) (nd : (tn ++ capn).Nodup := by decide +kernel)
    (hps : tn.length = ps.length := by rfl) (hfs : ∀ env x, foldedSetIterable iter env x = pure x := by intro _ _; rfl) :
    EV prog w n W sc vars ρ st (.ListComp elt [⟨.Tuple (nameList tn ps) k tp, iter, [], 0⟩] scope pos) (.list (xs.map f)) st := by
  obtain ⟨rfl, is, h1, h2⟩ := hc.spec
  have := EV.comp (prog := prog) (w := w) (n := n) (elt := elt) (target := .Tuple (nameList tn ps) k tp) (ifs := []) (pos := pos) tn capn is capd xs g tds (fun _ => true) f (fun _ => st) hok h1 h2 hsz hsrc
    (fun a ha => by
      rcases hg a ha with e | e <;> rw [e]
      · exact AS.tup tn ps (hput a ha) hps nd
      · exact AS.lst tn ps (hput a ha) hps nd) (fun a ha => by obtain ⟨_, _, _, e⟩ := (hput a ha).idx; exact e.symm)
    (fun pre a post e => ⟨st, .nil, fun _ => helt a (by rw [e]; simp), fun h => by cases h⟩) hfs
  have e : xs.filter (fun _ => true) = xs := by simp
  rwa [e] at this
theorem EV.filt {α : Type} {elt iter test : Expr} {scope : Scope} {pos : Pos} {x : Str} {p : Pos} {capd : List D} {capr : List (Option D)} (capn : List Str) (xs : List α) (g f : α → D) (q : α → Bool)
    (hsrc : EVit prog w n W sc vars ρ st iter (xs.map g) st) (hc : Caps vars ρ capn capd capr) (htest : ∀ a ∈ xs, ET prog w n W (relabelS scope sc) (x :: capn) (some (g a) :: capr) st test (q a) st)
    (helt : ∀ a ∈ xs, q a = true → EV prog w n W (relabelS scope sc) (x :: capn) (some (g a) :: capr) st elt (f a) st) (hsz : xs.length ≤ 1000000) (hok : scopeOk scope sc [x] capn = true := by decide +kernel) (nd : (x :: capn).Nodup := by decide +kernel)
    (hfs : ∀ env x, foldedSetIterable iter env x = pure x := by intro _ _; rfl) :
    EV prog w n W sc vars ρ st (.ListComp elt [⟨.Name x p, iter, [test], 0⟩] scope pos) (.list ((xs.filter q).map f)) st := by
  obtain ⟨rfl, is, h1, h2⟩ := hc.spec
  exact EV.comp [x] capn is capd xs g (fun a => [g a]) q f (fun _ => st) hok h1 h2 hsz hsrc (fun a _ => AS.var .here nd) (fun _ _ => rfl)
    (fun pre a post e => ⟨st, .one (htest a (by rw [e]; simp)), fun hq => helt a (by rw [e]; simp) hq, fun _ => rfl⟩) hfs
theorem aSetF {α : Type} {y x : Str} {py p spos : Pos} {rest : List Stmt} {o : Out W.σ} {elt iter test : Expr} {scope : Scope} {pos : Pos} {capd : List D} {capr : List (Option D)} (capn : List Str) (xs : List α) (g f : α → D) (q : α → Bool)
    (hsrc : EVit prog w n W sc vars ρ st iter (xs.map g) st) (hc : Caps vars ρ capn capd capr) (htest : ∀ a ∈ xs, ET prog w n W (relabelS scope sc) (x :: capn) (some (g a) :: capr) st test (q a) st)
    (helt : ∀ a ∈ xs, q a = true → EV prog w n W (relabelS scope sc) (x :: capn) (some (g a) :: capr) st elt (f a) st) 
    (hp : Put vars ρ y (.list ((xs.filter q).map f)) ρ') (hr : EX prog w n W sc vars ρ' st rest o) (hsz : xs.length ≤ 1000000) (hok : scopeOk scope sc [x] capn = true := by decide +kernel) (nd : (x :: capn).Nodup := by decide +kernel)
    (nv : vars.Nodup := by decide +kernel) (hsw : swB sc scope y py pos = true := by decide +kernel) (hfs : ∀ env x, foldedSetIterable iter env x = pure x := by intro _ _; rfl) :
    EX prog w n W sc vars ρ st (.Assign [.Name y py] (.ListComp elt [⟨.Name x p, iter, [test], 0⟩] scope pos) spos :: rest) o := by
  obtain ⟨rfl, is, h1, h2⟩ := hc.spec
  obtain ⟨i, hy, rfl⟩ := hp.idx
  exact EX.assignComp i [x] capn is capd xs g (fun a => [g a]) q f (fun _ => st) nv hy (fun env f => swaps_eq hsw env f) hok h1 h2 hsz hsrc
    (fun a _ => AS.var .here nd) (fun _ _ => rfl) (fun pre a post e => ⟨st, .one (htest a (by rw [e]; simp)), fun hq => helt a (by rw [e]; simp) hq, fun _ => rfl⟩) hr hfs

/-! lists in steps -/
theorem Reps.filterMap {U : Addr → Prop} {h : Heap} {vs : List Value} {ds : List D} (r : Reps U h vs ds) : ∀ ix : List Nat, Reps U h (ix.filterMap (vs[·]?)) (ix.filterMap (ds[·]?))
  | [] => .nil
  | i :: ix => by
    rw [List.filterMap_cons, List.filterMap_cons]
    cases hd : ds[i]? with
    | none =>
      have : vs[i]? = none := by
        rw [List.getElem?_eq_none_iff] at hd ⊢
        rw [r.length]; exact hd
      rw [this]; exact r.filterMap ix
    | some d =>
      obtain ⟨v, hv, hr⟩ := r.get i hd
      rw [hv]; exact .cons hr (r.filterMap ix)
noncomputable def everyD (ds : List D) (k c : Int) : List D := (sliceRange (sliceBounds (some k) none (some c) ds.length).1 (sliceBounds (some k) none (some c) ds.length).2.1 (sliceBounds (some k) none (some c) ds.length).2.2).filterMap (ds[·]?)
theorem EV.lstep {value e1 e3 : Expr} {ds : List D} {k c : Int} {ps pos : Pos} (h : EV prog w n W sc vars ρ st value (.list ds) st₁) (h1 : EV prog w n W sc vars ρ st₁ e1 (.int k) st₂) (h3 : EV prog w n W sc vars ρ st₂ e3 (.int c) st₃)
    (hc : c ≠ 0) (hsz : ds.length ≤ 1000000) : EV prog w n W sc vars ρ st (.Subscript value (.Slice (some e1) none (some e3) ps) pos) (.list (everyD ds k c)) st₃ :=
  h.sliced (.int h1) .none (.int h3) (fun {A} {U} {s} {v} {q1} {q2} {q3} {sl} low r hs e1 e2 e3 => by
    obtain ⟨a, vs, rfl, _, hl, rs⟩ := r.of_list
    refine wpAny_getItem_list_slice hl.isList hs part_is part_is part_is (by rw [e3]; intro q; cases q; exact hc rfl) ?_ (by simp [rs.length]; exact Nat.le_trans hsz (by decide))
    rw [e1, e2, e3]
    refine ⟨ext_push _, ?_⟩
    have he : slicePick vs.toArray (some k) none (some c) = ((sliceRange (sliceBounds (some k) none (some c) ds.length).1 (sliceBounds (some k) none (some c) ds.length).2.1 (sliceBounds (some k) none (some c) ds.length).2.2).filterMap (vs[·]?)).toArray := by
      unfold slicePick
      simp [rs.length]
    rw [he]
    have x5 : Ext Nowhere s { s with heap := s.heap.push { cls := .type "list", data := .seq ((sliceRange (sliceBounds (some k) none (some c) ds.length).1 (sliceBounds (some k) none (some c) ds.length).2.1 (sliceBounds (some k) none (some c) ds.length).2.2).filterMap (vs[·]?)).toArray } } := ext_push _
    exact .list _ _ _ (fresh_not low) ⟨_, Heap.get?_push_size _ rfl⟩ ((rs.filterMap _).ext0 x5)) ty_list
end
end
section
section
variable {hS : Heap} {prog : Program} {w : World} {n : Nat}
variable {W : Wd hS} {sc : Scope} {vars : List Str} {ρ ρ' : List (Option D)} {st st₁ st₂ st₃ st₄ : W.σ} {a b : Int}

theorem fdiv_pos (h : 0 < b) : a.fdiv b = a / b := fdiv_eq a h
theorem oDiv (h : 0 < b ∧ b < 1073741824) : Op hS prog w n (Bin .FloorDiv) [.int a, .int b] (.int (a / b)) := by
  rw [← fdiv_pos h.1]
  exact op_div (by omega) (PyProof.noPylong_small (by omega))
theorem oMod (h : 0 < b) : Op hS prog w n (Bin .Mod) [.int a, .int b] (.int (a % b)) := by
  rw [← fmod_eq a h]
  exact op_mod (by omega)
theorem bits_small {a : Int} (h : a.natAbs < 2 ^ 63) : Builtin.Int.intBits a ≤ 64 := by
  unfold Builtin.Int.intBits
  split
  · omega
  · rename_i hz
    have hz' : a ≠ 0 := by simpa using hz
    have : a.natAbs.log2 < 63 := (Nat.log2_lt (by omega)).mpr h
    omega
theorem oMul (h : -9000000000000000000 < a ∧ a < 9000000000000000000) : Op hS prog w n (Bin .Mult) [.int a, .int b] (.int (a * b)) := op_mul (IntMulOk.of_left (bits_small (by omega)))
theorem oPow (h : 1 < a ∧ a < 1000 ∧ 0 ≤ b ∧ b < 1000) : Op hS prog w n (Bin .Pow) [.int a, .int b] (.int (a ^ b.toNat)) := by
  by_cases hb : b = 0
  · subst hb; have := op_pow0 (hS := hS) (prog := prog) (w := w) (n := n) (a := a); simpa using this
  · refine op_pow (by omega) h.1 ?_
    have := bits_small (a := a) (by omega)
    unfold Builtin.Int.intTooBig
    have hl : (1000000 : Int) ≤ PySem.bitsLine := by decide
    have : ((Builtin.Int.intBits a : Nat) : Int) * b ≤ 64 * 1000 := Int.mul_le_mul (by omega) (by omega) (by omega) (by omega)
    simp
    omega
theorem aMeth {o : Expr} {name : Str} {apos pos : Pos} {args : List Expr} {d0 : D} {ds : List D} {d : D} {id : String} {pl : Env → Sem Bool} (hf : EV prog w n W sc vars ρ st o d0 st₁) (m : HasMeth d0 name id)
    (q : EVs prog w n W sc vars ρ st₁ args ds st₂) (ho : Op hS prog w n (Call (.builtin id)) (d0 :: ds) d)
    (he : Tr (∀ env, eval (.Call (.Attribute o name apos) args [] pos) env = (do
      let ov ← eval o env
      standAt apos.atName
      let (f, first) ← holding [ov] (getMethod ov name (pl env))
      callWith pos f first (backTo pos (starEach args env)) []))) : EV prog w n W sc vars ρ st (.Call (.Attribute o name apos) args [] pos) d st₂ := .meth hf m q ho he.h
theorem aRange1 {x : Str} {p pos : Pos} {e : Expr} {b : Int} {k : Nat} (hf : EV prog w n W sc vars ρ st (.Name x p) (.raw (.type "range")) st₁) (h : EV prog w n W sc vars ρ st₁ e (.int b) st₂)
    (hb : -1000000 < b ∧ b < 1000000 ∧ b.toNat = k) (he : Tr (∀ env, starEach [e] env = (false, eval e env) :: starEach [] env)) :
    EVit prog w n W sc vars ρ st (.Call (.Name x p) [e] [] pos) ((zs 0 k).map .int) st₂ := .range1 hf h ⟨hb.1, hb.2.1⟩ hb.2.2 he.h
theorem aRange2 {x : Str} {p pos : Pos} {e1 e2 : Expr} {a b : Int} {k : Nat} (hf : EV prog w n W sc vars ρ st (.Name x p) (.raw (.type "range")) st₁) (h1 : EV prog w n W sc vars ρ st₁ e1 (.int a) st₂) (h2 : EV prog w n W sc vars ρ st₂ e2 (.int b) st₃)
    (hb : (-1000000 < a ∧ a < 1000000 ∧ -1000000 < b ∧ b < 1000000) ∧ (b - a).toNat = k) (he1 : Tr (∀ env, starEach [e1, e2] env = (false, eval e1 env) :: starEach [e2] env))
    (he : Tr (∀ env, starEach [e2] env = (false, eval e2 env) :: starEach [] env)) :
    EVit prog w n W sc vars ρ st (.Call (.Name x p) [e1, e2] [] pos) ((zs a k).map .int) st₃ := .range2 hf h1 h2 hb.1 hb.2 he1.h he.h
theorem EVit.stay {e : Expr} {ds : List D} (h : EVit prog w n W sc vars ρ st e ds st₁) : EVit prog w n W sc vars ρ st e ds st₁ := h
theorem aItT {es : List Expr} {ds : List D} {k : Nat} {pos : Pos} (q : EVs prog w n W sc vars ρ st es ds st₁) (hsz : Dk (es.length ≤ 1000000)) : EVit prog w n W sc vars ρ st (.Tuple es k pos) ds st₁ := .tuple (aT q hsz)
/-- an int over an int -/
noncomputable def fdivI (a b : Int) : UInt64 := Float64.ofFrac (decide (a < 0) != decide (b < 0)) a.natAbs b.natAbs
theorem oTdiv (h : b ≠ 0 ∧ Float64.isInf (fdivI a b) = false) : Op hS prog w n (Bin .Div) [.int a, .int b] (.float (fdivI a b)) := op_truediv h.1 rfl h.2
theorem oRound {x : UInt64} (h : Float64.isFinite x = true ∧ Float64.isNaN x = false ∧ Float64.isInf x = false) : Op hS prog w n (Call (.builtin "round")) [.float x] (.int (Flt.toInt Float64.nearestOf x)) := op_round h.1 h.2.1 h.2.2
theorem oChr {i : Int} (h : 0 ≤ i ∧ i ≤ 1114111) : Op hS prog w n (Call (.builtin "chr")) [.int i] (.str (S [i.toNat])) := op_chr h.1 h.2
/-- a call of a function of the text -/
theorem EV.fn {x : Str} {a : Addr} {k : Nat} {ps : List Str} {p pos : Pos} {args : List Expr} {ds : List D} {d : D} (F : Fn hS x a k ps) (q : EVs prog w n W sc vars ρ st args ds st₂) (ho : Op hS prog w n (Call (.ref a)) ds d)
    (hb : sc.names.lookup x = some .globalImplicit ∧ (x == ("__debug__" : Str)) = false := by decide +kernel) : EV prog w n W sc vars ρ st (.Call (.Name x p) args [] pos) d st₂ :=
  .call (aG F.glb ⟨hb⟩) F.at_.callee q ho
theorem aSsl1 {value e1 : Expr} {p : List Nat} {k : Int} {ps pos : Pos} (h : EV prog w n W sc vars ρ st value (.str (S p)) st₁) (h1 : EV prog w n W sc vars ρ st₁ e1 (.int k) st₂) 
    (hk : 0 ≤ k ∧ k.toNat ≤ p.length ∧ p.length ≤ 1000000) : EV prog w n W sc vars ρ st (.Subscript value (.Slice (some e1) none none ps) pos) (.str (S (p.drop k.toNat))) st₂ := by
  obtain ⟨m, rfl⟩ := Int.eq_ofNat_of_zero_le hk.1
  exact h.sslice' h1 hk.2.2 hk.2.1
theorem aSsl2 {value e1 e2 : Expr} {p : List Nat} {k j : Int} {ps pos : Pos} (h : EV prog w n W sc vars ρ st value (.str (S p)) st₁) (h1 : EV prog w n W sc vars ρ st₁ e1 (.int k) st₂) (h2 : EV prog w n W sc vars ρ st₂ e2 (.int j) st₃)
    (hk : (0 ≤ k ∧ k.toNat ≤ p.length ∧ p.length ≤ 1000000) ∧ 0 ≤ j ∧ j.toNat ≤ p.length) : EV prog w n W sc vars ρ st (.Subscript value (.Slice (some e1) (some e2) none ps) pos) (.str (S ((p.drop k.toNat).take (j.toNat - k.toNat)))) st₃ := by
  obtain ⟨m, rfl⟩ := Int.eq_ofNat_of_zero_le hk.1.1
  obtain ⟨m', rfl⟩ := Int.eq_ofNat_of_zero_le hk.2.1
  exact h.sslice h1 h2 hk.1.2.2 hk.2.2 hk.1.2.1
theorem aCompStop {t elt : Expr} {gs : List Comprehension} {scope : Scope} {cpos pos : Pos} {rest : List Stmt} {o : Out W.σ} (h : EX prog w n W sc vars ρ st (.Assign [t] (.ListComp elt gs scope cpos) pos :: rest) o) :
    EX prog w n W sc vars ρ st (.Assign [t] (.ListComp elt gs scope cpos) pos :: rest) o := h
theorem dI_map {α : Type} (xs : List α) (f : α → Int) : D.list (xs.map fun a => D.int (f a)) = dI (xs.map f) := by
  show _ = D.list ((xs.map f).map D.int)
  rw [List.map_map]; rfl
theorem aSetMI {α : Type} {y x : Str} {py p spos : Pos} {rest : List Stmt} {o : Out W.σ} {elt iter : Expr} {scope : Scope} {pos : Pos} {capd : List D} {capr : List (Option D)} (capn : List Str) (xs : List α) (g : α → D) (f : α → Int)
    (hsrc : EVit prog w n W sc vars ρ st iter (xs.map g) st) (hc : Caps vars ρ capn capd capr) (helt : ∀ a ∈ xs, EV prog w n W (relabelS scope sc) (x :: capn) (some (g a) :: capr) st elt (.int (f a)) st)
    (hp : Put vars ρ y (dI (xs.map f)) ρ') (hr : EX prog w n W sc vars ρ' st rest o) (hsz : xs.length ≤ 1000000) (hok : scopeOk scope sc [x] capn = true := by decide +kernel) (nd : (x :: capn).Nodup := by decide +kernel)
    (nv : vars.Nodup := by decide +kernel) (hsw : swB sc scope y py pos = true := by decide +kernel) (hfs : ∀ env x, foldedSetIterable iter env x = pure x := by intro _ _; rfl) :
    EX prog w n W sc vars ρ st (.Assign [.Name y py] (.ListComp elt [⟨.Name x p, iter, [], 0⟩] scope pos) spos :: rest) o :=
  aSetM capn xs g (fun a => .int (f a)) hsrc hc helt (by rw [dI_map]; exact hp) hr hsz hok nd nv hsw hfs
theorem EV.mapI {α : Type} {elt iter : Expr} {scope : Scope} {pos : Pos} {x : Str} {p : Pos} {capd : List D} {capr : List (Option D)} (capn : List Str) (xs : List α) (g : α → D) (f : α → Int)
    (hsrc : EVit prog w n W sc vars ρ st iter (xs.map g) st) (hc : Caps vars ρ capn capd capr) 
    (helt : ∀ a ∈ xs, EV prog w n W (relabelS scope sc) (x :: capn) (some (g a) :: capr) st elt (.int (f a)) st) (hsz : xs.length ≤ 1000000) (hok : scopeOk scope sc [x] capn = true := by decide +kernel) (nd : (x :: capn).Nodup := by decide +kernel)
    (hfs : ∀ env x, foldedSetIterable iter env x = pure x := by intro _ _; rfl) :
    EV prog w n W sc vars ρ st (.ListComp elt [⟨.Name x p, iter, [], 0⟩] scope pos) (dI (xs.map f)) st := by
  rw [← dI_map]
  exact .map capn xs g (fun a => .int (f a)) hsrc hc helt hsz hok nd hfs
/-- an item by what the list is -/
theorem mem_zs {a : Int} {k : Nat} {x : Int} (h : x ∈ zs a k) : ∃ i : Nat, i < k ∧ x = a + i := by
  unfold zs at h
  obtain ⟨i, hi, rfl⟩ := List.mem_map.mp h
  exact ⟨i, List.mem_range.mp hi, rfl⟩
end
end
section
noncomputable abbrev Flat : Addr → Prop := fun _ => True
theorem Rep.flat {U : Addr → Prop} {h h' : Heap} {v : Value} {d : D} (r : Rep Flat h v d) : Rep U h' v d := r.move fun _ _ n _ _ => (n trivial).elim
theorem Reps.flat {U : Addr → Prop} {h h' : Heap} {vs : List Value} {ds : List D} (r : Reps Flat h vs ds) : Reps U h' vs ds := r.move fun _ _ n _ _ => (n trivial).elim
noncomputable def isFlat : D → Bool
  | .list _ => false
  | .tuple _ => false
  | .raw _ => false
  | _ => true
theorem Rep.toFlat {U : Addr → Prop} {h h' : Heap} {v : Value} {d : D} (r : Rep U h v d) (f : isFlat d = true) : Rep Flat h' v d := by
  cases r with
  | none => exact .none
  | bool b => exact .bool b
  | int i t => exact .int i t
  | float x t => exact .float x t
  | str x t => exact .str x t
  | list _ _ _ _ _ _ => cases f
  | tuple _ _ _ _ _ _ => cases f
  | raw _ => cases f
theorem Reps.toFlat {U : Addr → Prop} {h h' : Heap} : ∀ {vs : List Value} {ds : List D}, Reps U h vs ds → ds.all isFlat = true → Reps Flat h' vs ds
  | _, _, .nil, _ => .nil
  | _, _, .cons a r, f => by
    simp only [List.all_cons, Bool.and_eq_true] at f
    exact .cons (a.toFlat f.1) (r.toFlat f.2)

/-- a list of its own that may change -/
noncomputable def OwnList (h : Heap) (a : Addr) (l : List D) : Prop := ∃ vs, h.PlainList a vs.toArray ∧ Reps Flat h vs l
theorem OwnList.at {h h' : Heap} {a : Addr} {l : List D} (x : OwnList h a l) (k : ∀ o, h.get? a = some o → h'.get? a = some o) : OwnList h' a l :=
  let ⟨vs, ⟨m, e⟩, r⟩ := x; ⟨vs, ⟨m, k _ e⟩, r.flat⟩
theorem OwnList.alive {h : Heap} {a : Addr} {l : List D} (x : OwnList h a l) : ∃ o, h.get? a = some o := let ⟨_, ⟨_, e⟩, _⟩ := x; ⟨_, e⟩

section
variable {hS : Heap}
noncomputable abbrev Wd.own (W : Wd hS) (a : Addr) (h1 : hS.get? a = none) (_h2 : ¬ W.foot a) : Wd hS where
  Mut := fun b => W.Mut b ∨ b = a
  foot := fun b => W.foot b ∨ b = a
  σ := W.σ × List D
  holds := fun st s => W.holds st.1 s ∧ OwnList s.heap a st.2
  mutF := fun b m => m.imp (W.mutF b) id
  apart := fun b o e m => m.elim (W.apart b o e) fun q => by rw [q, h1] at e; cases e
  alive := fun h b m => m.elim (W.alive h.1 b) fun q => q ▸ h.2.alive
  stable := fun h k1 k2 => ⟨W.stable h.1 (fun b o f e => k1 b o (.inl f) e) k2, h.2.at fun o e => k1 a o (.inr rfl) e⟩

variable {prog : Program} {w : World} {n : Nat}
variable {W : Wd hS} {sc : Scope} {vars : List Str} {ρ ρ' : List (Option D)} {st st₁ st₂ st₃ st₄ : W.σ}

/-- what an operation of a world does in the world with a list of its own -/
theorem OpW.frame {t : List Value → Sem Value} {ds : List D} {d : D} {a : Addr} {h1 : hS.get? a = none} {h2 : ¬ W.foot a} (l : List D) (h : OpW W prog w n st t ds d st₁) : OpW (W.own a h1 h2) prog w n (st, l) t ds d (st₁, l) := fun A U s vs rm stat mu low hold q =>
  wpAny_mono (h A U s vs rm stat (fun b m => mu b (.inl m)) low hold.1 q) (fun v s' z => ⟨z.1.mono fun _ m => .inl m, ⟨z.2.1, hold.2.at fun o e => z.1.keep a o (fun m => h2 (W.mutF a m)) e⟩, z.2.2⟩) fun _ _ x => x

/-- an operation of the world behind two values -/
theorem EV.twoW {e e1 e2 : Expr} {d1 d2 d : D} {t : Value → Value → Sem Value} (h1 : EV prog w n W sc vars ρ st e1 d1 st₁) (h2 : EV prog w n W sc vars ρ st₁ e2 d2 st₂)
    (ho : OpW W prog w n st₂ (fun vs => match vs with | [a, b] => t a b | _ => pure .none) [d1, d2] d st₃)
    (he : ∀ {A : Around} {env : Env} {s : Shared} {Q : Value → Shared → Prop} {E : Value → Shared → Prop}, Fits sc env →
      wpAny (model prog w) A (eval e1 env) (fun a s₁ => wpAny (model prog w) A (eval e2 env) (fun b s₂ => wpAny (model prog w) A (t a b) Q E s₂) E s₁) E s → wpAny (model prog w) A (eval e env) Q E s) :
    EV prog w n W sc vars ρ st e d st₃ := fun A env U s r f I => by
  refine he f (wpAny_mono (h1 A env U s r f I) (fun v1 s1 q1 => ?_) fun _ _ x => x)
  have I1 := I.step q1.1 q1.2.1
  refine wpAny_mono (h2 A env U s1 r f I1) (fun v2 s2 q2 => ?_) fun _ _ x => x
  have I2 := I1.step q2.1 q2.2.1
  refine wpAny_mono (ho A U s2 [v1, v2] r I2.static I2.mutU I2.low I2.hold (.cons (q1.2.2.ext q2.1 I.mutU) (.cons q2.2.2 .nil))) (fun v s' q => ?_) fun _ _ x => x
  exact ⟨(q1.1.trans q2.1).trans q.1, q.2.1, q.2.2⟩
theorem aItemW {value slice : Expr} {pos : Pos} {d1 d2 d : D} (h1 : EV prog w n W sc vars ρ st value d1 st₁) (h2 : EV prog w n W sc vars ρ st₁ slice d2 st₂)
    (ho : OpW W prog w n st₂ (Sub value slice) [d1, d2] d st₃) : EV prog w n W sc vars ρ st (.Subscript value slice pos) d st₃ := h1.twoW h2 ho fun _ h => Subscript_ h
/-- an item of the list of its own -/
theorem ownItem {value slice : Expr} {a : Addr} {h1 : hS.get? a = none} {h2 : ¬ W.foot a} {l : List D} {k : Int} {d : D} (h : 0 ≤ k ∧ k < 2 ^ 63 ∧ l[k.toNat]? = some d) (hs : Tr (∀ o i, subscripted slice false o i = operate [o, i] (getItem o i))) :
    OpW (W.own a h1 h2) prog w n (st, l) (Sub value slice) [.raw (.ref a), .int k] d (st, l) := fun A U s vs rm stat mu low hold q => by
  obtain ⟨u, v, rfl, q1, q2⟩ := q.two
  have := q1.of_raw; subst this
  obtain ⟨t, rfl⟩ := q2.of_int
  obtain ⟨ws, hl, r⟩ := hold.2
  obtain ⟨x, hx, hr⟩ := r.get _ h.2.2
  exact tail_any hl.isList.typeIs slot_list_getitem.lookup (wpAny_getItem_list hl.isList h.1 h.2.1 (by simpa using hx) ⟨.refl _ _, hold, hr.flat⟩) (hs.h _ _)

theorem set_plain {A : Around} {E : Value → Shared → Prop} {s : Shared} {l : Addr} {items : Array Value} {k : Int} {t : Tok} {v : Value} {Q : Unit → Shared → Prop} (hp : s.heap.PlainList l items) (h : 0 ≤ k ∧ k < 2 ^ 63 ∧ k < items.size)
    (hQ : ∀ h', h'.PlainList l (items.setIfInBounds k.toNat v) → (∀ b o, b ≠ l → s.heap.get? b = some o → h'.get? b = some o) → Q () { s with heap := h' }) : wpAny (model prog w) A (setItem (.ref l) (.int k t) v) Q E s := by
  have hl := hp.isList
  obtain ⟨n, ho⟩ := id hp
  unfold setItem
  try with_reducible refine wpAny_holding ?_
  refine wpAny_bind (wpAny_sequenceKey hl.typeIs (by decide) ?_)
  refine wpAny_bind (wpAny_callSpecial?_slot (name := Str.ofString "__setitem__") hl.typeIs slot_list_setitem (wpAny_call_entry slot_list_setitem hl.typeIs entry_list_setitem ?_ (args_list_setitem _ _ _)))
  show wpAny _ _ (Builtin.List.listSubscript? (.int k t) >>= _) _ _ s
  refine wpAny_bind (wpAny_listSubscript_int (fitsIndex_of h.1 h.2.1) ?_)
  obtain ⟨h0, _, hn⟩ := h
  obtain ⟨j, rfl⟩ := Int.eq_ofNat_of_zero_le h0
  have hj : j < items.size := by omega
  show wpAny _ _ ((seqItemAt l j >>= fun r => pure (r.map (j, ·))) >>= _) _ _ s
  refine wpAny_bind (wpAny_bind (wpAny_seqItemAt ho rfl (wpAny_pure ?_)))
  rw [Array.getElem?_eq_getElem hj]
  show wpAny _ _ (setSeqItemAt l j v >>= _) _ _ s
  have hfin : (s.heap.update l (Obj.mapSeq (·.setIfInBounds j v))).PlainList l (items.setIfInBounds j v) := by
    obtain ⟨m, hm⟩ := Obj.data_mapSeq (o := { cls := .type "list", data := .seq items n }) rfl (·.setIfInBounds j v)
    refine ⟨m, (Heap.get?_update_self _ ho (Obj.isFreed_of_seq hm)).trans ?_⟩
    rw [← hm]; rfl
  have hkeep : ∀ b o, b ≠ l → s.heap.get? b = some o → (s.heap.update l (Obj.mapSeq (·.setIfInBounds j v))).get? b = some o := fun b o hb e => (Heap.get?_update_other _ _ (Ne.symm hb)).trans e
  refine wpAny_bind (wpAny_setSeqItemAt ho rfl ?_)
  first
    | exact wpAny_bind (wpAny_pure (wpAny_pure ⟨.none, rfl, wpAny_pure (hQ _ hfin hkeep)⟩))
    | exact wpAny_pure ⟨.none, rfl, wpAny_pure (hQ _ hfin hkeep)⟩
theorem Reps.set {U : Addr → Prop} {h : Heap} {v : Value} {d : D} (r : Rep U h v d) : ∀ {vs : List Value} {ds : List D} (i : Nat), Reps U h vs ds → Reps U h (vs.set i v) (ds.set i d)
  | _, _, _, .nil => .nil
  | _, _, 0, .cons _ q => .cons r q
  | _, _, i + 1, .cons a q => .cons a (Reps.set r i q)
/-- an item is set -/
theorem EX.setOwn {o i value : Expr} {p pos : Pos} {rest : List Stmt} {a : Addr} {h1 : hS.get? a = none} {h2 : ¬ W.foot a} {l l' : List D} {k : Int} {d : D} {st' st'' : (W.own a h1 h2).σ} {out : Out (W.own a h1 h2).σ}
    (hv : EV prog w n (W.own a h1 h2) sc vars ρ st' value d st'') (ho : EV prog w n (W.own a h1 h2) sc vars ρ st'' o (.raw (.ref a)) (st, l)) (hi : EV prog w n (W.own a h1 h2) sc vars ρ (st, l) i (.int k) (st, l))
    (hk : 0 ≤ k ∧ k < 2 ^ 63 ∧ k < l.length) (hf : isFlat d = true) (hl : l' = l.set k.toNat d) (hr : EX prog w n (W.own a h1 h2) sc vars ρ (st, l') rest out) (hsw : ∀ env, swapsWith value (some (.Subscript o i p)) pos.line env = pure false := by intro _; rfl) :
    EX prog w n (W.own a h1 h2) sc vars ρ st' (.Assign [.Subscript o i p] value pos :: rest) out := .step (fun A env U s r f I hs => by
  refine wpAny_Assign_Subscript (wpAny_mono (hv A env U s r f I) (fun v s1 q1 => ?_) fun _ _ x => x) (hsw env)
  have I1 := I.step q1.1 q1.2.1
  refine wpAny_mono (ho A env U s1 r f I1) (fun ov s2 q2 => ?_) fun _ _ x => x
  have I2 := I1.step q2.1 q2.2.1
  have e := q2.2.2.of_raw
  subst e
  refine wpAny_mono (hi A env U s2 r f I2) (fun iv s3 q3 => ?_) fun _ _ x => x
  have I3 := I2.step q3.1 q3.2.1
  obtain ⟨t, rfl⟩ := q3.2.2.of_int
  obtain ⟨vs, hp, rr⟩ := q3.2.1.2
  refine set_plain hp ⟨hk.1, hk.2.1, by simp [rr.length]; exact hk.2.2⟩ fun h' hp' keep => ?_
  have x4 : Ext (W.own a h1 h2).Mut s3 { s3 with heap := h' } := ⟨fun b o m e => keep b o (fun q => m (.inr q)) e, rfl, Nat.le_refl _, fun _ _ => rfl, fun b => b⟩
  have w4 : (W.own a h1 h2).holds (st, l') { s3 with heap := h' } := by
    refine ⟨W.stable q3.2.1.1 (fun b o fb e => keep b o (fun q => h2 (q ▸ fb)) e) (fun b o e => keep b o (fun q => by rw [q, h1] at e; cases e) (I3.static b o e)), vs.set k.toNat v, ?_, ?_⟩
    · have : (vs.set k.toNat v).toArray = vs.toArray.setIfInBounds k.toNat v := by simp
      rw [this]; exact hp'
    · rw [hl]
      exact Reps.set (q1.2.2.toFlat hf) _ rr.flat
  exact ⟨rfl, may_mut (((q1.1.trans q2.1).trans q3.1).trans x4), I3.step x4 w4⟩) hr

/-- what an answer of the world with a list of its own is in the world -/
inductive Conv (a : Addr) (h1 : hS.get? a = none) (h2 : ¬ W.foot a) : Out (W.own a h1 h2).σ → Out W.σ → Prop
  | same {d st l} : Conv a h1 h2 (.ret d (st, l)) (.ret d st)
  | own {st l} : Conv a h1 h2 (.ret (.raw (.ref a)) (st, l)) (.ret (.list l) st)
/-- from here on the list that is made is a list of its own -/
theorem EX.own {x : Str} {e : Expr} {p pos : Pos} {rest : List Stmt} {ds : List D} {o : Out W.σ} (ρ' : Addr → List (Option D))
    (h : ∀ (A : Around) (env : Env) (U : Addr → Prop) (s : Shared), Room A n → Fits sc env → Stand W U env vars ρ st s →
      wpAny (model prog w) A (eval e env) (fun v s' => Ext W.Mut s s' ∧ W.holds st₁ s' ∧ ∃ a vs, v = .ref a ∧ s.heap.get? a = none ∧ s'.heap.PlainList a vs.toArray ∧ Reps Flat s'.heap vs ds) (fun _ _ => False) s)
    (hp : ∀ a, Put vars ρ x (.raw (.ref a)) (ρ' a))
    (hr : ∀ a (h1 : hS.get? a = none) (h2 : ¬ W.foot a), ∃ o', EX prog w n (W.own a h1 h2) sc vars (ρ' a) (st₁, ds) rest o' ∧ Conv a h1 h2 o' o) (nd : vars.Nodup := by decide +kernel)
    (hsw : ∀ env, Fits sc env → swapsWith e (some (.Name x p)) pos.line env = pure false := by intro _ _; rfl) : EX prog w n W sc vars ρ st (.Assign [.Name x p] e pos :: rest) o := fun A env U s r f I hs => by
  refine wpAny_execs_cons (wpAny_Assign_Name (wpAny_mono (h A env U s r f I) (fun v s1 z => ?_) fun _ _ x => x) (hsw env f))
  obtain ⟨x1, w1, a, vs, rfl, ha, hpl, rr⟩ := z
  have h1 : hS.get? a = none := by
    cases e : hS.get? a with
    | none => rfl
    | some o => rw [I.static a o e] at ha; cases ha
  have h2 : ¬ W.foot a := fun m => by obtain ⟨o, e⟩ := W.alive I.hold a m; rw [ha] at e; cases e
  have hu : ¬ U a := fun m => by obtain ⟨o, e⟩ := I.low a m; rw [ha] at e; cases e
  have I1 := I.grow x1 w1 (fun b => b = a) (fun b q => q ▸ ha) (fun b q => q ▸ (let ⟨_, e⟩ := hpl; ⟨_, e⟩))
  obtain ⟨i, hx, hρ'⟩ := (hp a).idx
  have hm := List.mem_of_getElem? hx
  have hLa : env.locals ≠ a := fun q => by obtain ⟨_, o, _, _, e', _⟩ := I.ns; rw [q, ha] at e'; cases e'
  have hCa : ∀ y c, env.cells.lookup y = some c → c ≠ a := fun y c hc q => by obtain ⟨_, o, e', _⟩ := I.cellv y c hc; rw [q, ha] at e'; cases e'
  refine wpAny_mono (I1.store f nd hx (hs x hm) (.raw (.ref a))) (fun _ s2 z => ?_) fun _ _ x => x
  obtain ⟨x2, I2⟩ := z
  rw [← hρ'] at I2
  have keepa : ∀ o, s1.heap.get? a = some o → s2.heap.get? a = some o := fun o e => x2.keep a o (fun q => q.elim (fun q => hLa q.symm) fun ⟨y, _, hc⟩ => hCa y a hc rfl) e
  have own2 : OwnList s2.heap a ds := OwnList.at ⟨vs, hpl, rr⟩ keepa
  obtain ⟨o', hE, hC⟩ := hr a h1 h2
  have I3 : Stand (W.own a h1 h2) (fun b => U b ∨ b = a) env vars (ρ' a) (st₁, ds) s2 :=
    ⟨I2.static, fun b m => m.elim (fun m => .inl (I.mutU b m)) .inr, I2.low, ⟨I2.hold, own2⟩, I2.ns, fun m => m.elim I2.locals hLa, I2.localsS, fun y c hc m => m.elim (I2.cells y c hc) (hCa y c hc), I2.cellsS, I2.cellv, I2.inj, I2.sto⟩
  refine wpAny_mono (hE A env _ s2 r f I3 hs) (fun fl s3 z => ?_) fun _ _ x => x
  obtain ⟨x3, hpost⟩ := z
  refine ⟨⟨fun b ob nb e => ?_, x3.os.trans (x2.os.trans x1.os), Nat.le_trans x1.gsize (Nat.le_trans x2.gsize x3.gsize), fun g hg => (x3.gens g (Nat.lt_of_lt_of_le hg (Nat.le_trans x1.gsize x2.gsize))).trans ((x2.gens g (Nat.lt_of_lt_of_le hg x1.gsize)).trans (x1.gens g hg)), fun q => x3.bare (x2.bare (x1.bare q))⟩, ?_⟩
  · have hba : b ≠ a := fun q => by rw [q, ha] at e; cases e
    refine x3.keep b ob (fun m => ?_) (x2.keep b ob (fun m => nb (.inr (Own.mono (by simpa using hm) b m))) (x1.keep b ob (fun m => nb (.inl m)) e))
    rcases m with (m | m) | m
    · exact nb (.inl m)
    · exact hba m
    · exact nb (.inr m)
  · cases hC with
    | same =>
      obtain ⟨v, rfl, hh, hr⟩ := hpost
      exact ⟨v, rfl, hh.1, hr.move fun b o nu _ e => ⟨e, fun u => nu (.inl u)⟩⟩
    | own =>
      obtain ⟨v, rfl, hh, hr⟩ := hpost
      have e := hr.of_raw
      subst e
      obtain ⟨vs', hp', rr'⟩ := hh.2
      exact ⟨_, rfl, hh.1, .list a vs' _ hu hp' rr'.flat⟩
end
end
section
section
variable {hS : Heap} {prog : Program} {w : World} {n : Nat}
variable {W : Wd hS} {sc : Scope} {vars : List Str} {ρ ρ' : List (Option D)} {st st₁ st₂ st₃ st₄ : W.σ}

/-- the value is a list that was not there before -/
noncomputable def EVn (prog : Program) (w : World) (n : Nat) (W : Wd hS) (sc : Scope) (vars : List Str) (ρ : List (Option D)) (st : W.σ) (e : Expr) (ds : List D) (st₁ : W.σ) : Prop :=
  ∀ (A : Around) (env : Env) (U : Addr → Prop) (s : Shared), Room A n → Fits sc env → Stand W U env vars ρ st s →
      wpAny (model prog w) A (eval e env) (fun v s' => Ext W.Mut s s' ∧ W.holds st₁ s' ∧ ∃ a vs, v = .ref a ∧ s.heap.get? a = none ∧ s'.heap.PlainList a vs.toArray ∧ Reps Flat s'.heap vs ds) (fun _ _ => False) s
theorem EVn.display {es : List Expr} {ds : List D} {pos : Pos} (q : EVs prog w n W sc vars ρ st es ds st₁) (hf : ds.all isFlat = true) (hsz : ds.length ≤ 1000000) : EVn prog w n W sc vars ρ st (.List es pos) ds st₁ := fun A env U s r f I => by
  refine List_ (wpAny_mono (q.run r f I) (fun vs s1 q1 => ?_) fun _ _ x => x)
  have I1 := I.step q1.1 q1.2.1
  refine wpAny_newObj_type ⟨q1.1.trans (ext_push _), I1.hold0 (ext_push _), _, vs, rfl, fresh_of_ext q1.1 (fun a m => W.alive q1.2.1 a (W.mutF a m)) (get_size_none _), ⟨_, Heap.get?_push_size _ rfl⟩, q1.2.2.toFlat hf⟩ ?_
  show vs.toArray.size ≤ sizeLine
  rw [List.size_toArray, q1.2.2.length]; exact Nat.le_trans hsz (by decide)
theorem EVn.listOf {p pos : Pos} {arg : Expr} {ds : List D} (B : Base hS) (q : EV prog w n W sc vars ρ st arg (.list ds) st₁) (hf : ds.all isFlat = true) (hsz : ds.length ≤ 1000000) (hk : sc.names.lookup (Str.ofString "list") = some NameKind.globalImplicit := by decide +kernel)
    (he : ∀ env, starEach [arg] env = (false, eval arg env) :: starEach [] env := by intro _; rfl) : EVn prog w n W sc vars ρ st (.Call (.Name "list" p) [arg] [] pos) ds st₁ := fun A env U s r ft I => by
  have hn : EV prog w n W sc vars ρ st (.Name "list" p) (.raw (.type "list")) st := .blt B.list hk
  refine Call_ (wpAny_mono (hn A env U s r ft I) (fun v s1 q1 => ?_) fun _ _ x => x)
  have e := q1.2.2.of_raw
  subst e
  refine callWith_of (.type "list") (.cons q .nil he) r ft (I.step q1.1 q1.2.1) fun vs s2 x2 I2 r2 => ?_
  obtain ⟨v, rfl, rv⟩ := r2.one
  obtain ⟨a, vs, rfl, _, ⟨m, ho⟩, rr⟩ := rv.of_list
  refine call_list_seq a (.inl rfl) ho rfl rfl (fun h' c' k hget => ?_) (by simp [rr.length]; exact Nat.le_trans hsz (by decide))
  have x3 : Ext W.Mut s2 { s2 with heap := h' } := ext_keep (tk := s2.toks) k
  refine ⟨(q1.1.trans x2).trans x3, I2.hold0 (ext_keep (tk := s2.toks) k), _, vs, rfl, fresh_of_ext (q1.1.trans x2) (fun a m => W.alive I2.hold a (W.mutF a m)) (get_size_none _), ⟨c', hget⟩, rr.toFlat hf⟩
/-- what is evaluated for what it does -/
theorem EX.expr {e : Expr} {pos : Pos} {rest : List Stmt} {d : D} {o : Out W.σ} (h : EV prog w n W sc vars ρ st e d st₁) (hr : EX prog w n W sc vars ρ st₁ rest o) (hsw : ∀ env, swapsWith e none pos.line env = pure false := by intro _; rfl) :
    EX prog w n W sc vars ρ st (.Expr e pos :: rest) o := .step (fun A env U s r f I hs => by
  have hi : interactive env = false := by unfold interactive; rw [f.scope, f.kind]; rfl
  exact wpAny_Expr_any (wpAny_mono (h A env U s r f I) (fun v s' q => ⟨rfl, may_mut q.1, I.step q.1 q.2.1⟩) fun _ _ x => x) hi (hsw env)) hr

/-- a method that the world knows -/
noncomputable def HasMethW (W : Wd hS) (st : W.σ) (d : D) (name : Str) (f : Value) : Prop :=
  ∀ {prog : Program} {w : World} {A : Around} {U : Addr → Prop} {s : Shared} {v : Value} {pl : Sem Bool} {Q : Value × List Value → Shared → Prop} {E : Value → Shared → Prop}, (∀ a o, hS.get? a = some o → s.heap.get? a = some o) → W.holds st s → Rep U s.heap v d →
    Q (f, [v]) s → wpAny (model prog w) A (getMethod v name pl) Q E s
theorem EV.methW {o : Expr} {name : Str} {apos pos : Pos} {args : List Expr} {d0 : D} {ds : List D} {d : D} {f : Value} {pl : Env → Sem Bool} (hf : EV prog w n W sc vars ρ st o d0 st₁) (m : HasMethW W st₁ d0 name f) (hraw : ∃ v, d0 = .raw v) (c : Callee hS f)
    (q : EVs prog w n W sc vars ρ st₁ args ds st₂) (ho : OpW W prog w n st₂ (Call f) (d0 :: ds) d st₃)
    (he : ∀ env, eval (.Call (.Attribute o name apos) args [] pos) env = (do
      let ov ← eval o env
      standAt apos.atName
      let (f, first) ← holding [ov] (getMethod ov name (pl env))
      callWith pos f first (backTo pos (starEach args env)) []) := by intro _; rfl) : EV prog w n W sc vars ρ st (.Call (.Attribute o name apos) args [] pos) d st₃ := fun A env U s r ft I => by
  refine MethodCall_ (pl := pl env) (wpAny_mono (hf A env U s r ft I) (fun v s1 q1 => ?_) fun _ _ x => x) (he env)
  have I1 := I.step q1.1 q1.2.1
  refine m I1.static q1.2.1 q1.2.2 ?_
  refine callWith_of c q r ft I1 fun vs s2 x2 I2 r2 => ?_
  obtain ⟨u, rfl⟩ := hraw
  have e := q1.2.2.of_raw
  subst e
  refine wpAny_mono (ho A U s2 (v :: vs) r I2.static I2.mutU I2.low I2.hold (.cons (.raw _) r2)) (fun v' s3 q3 => ?_) fun _ _ x => x
  exact ⟨(q1.1.trans x2).trans q3.1, q3.2.1, q3.2.2⟩
theorem HasMethW.frame {a : Addr} {h1 : hS.get? a = none} {h2 : ¬ W.foot a} {d : D} {name : Str} {f : Value} (l : List D) (m : HasMethW W st d name f) : HasMethW (W.own a h1 h2) (st, l) d name f := fun stat hold r q => m stat hold.1 r q

/-- methods of the list of its own -/
theorem ownMeth {a : Addr} {h1 : hS.get? a = none} {h2 : ¬ W.foot a} {l : List D} {name : Str} {id : String} (sl : Slot "list" name id) (ht : typeOf (Value.builtin id) = pure (Value.type "method_descriptor")) : HasMethW (W.own a h1 h2) (st, l) (.raw (.ref a)) name (.builtin id) := fun stat hold r q => by
  have e := r.of_raw
  subst e
  obtain ⟨vs, ⟨m, e⟩, _⟩ := hold.2
  exact getMethod_list_of sl ht (items := vs.toArray) ⟨_, e, rfl, _, rfl⟩ ⟨_, e, rfl⟩ q
theorem Reps.snoc {U : Addr → Prop} {h : Heap} {vs : List Value} {ds : List D} {v : Value} {d : D} (r : Reps U h vs ds) (q : Rep U h v d) : Reps U h (vs ++ [v]) (ds ++ [d]) := r.append (.cons q .nil)
theorem ownAppend {a : Addr} {h1 : hS.get? a = none} {h2 : ¬ W.foot a} {l : List D} {d : D} (hf : isFlat d = true) (hsz : l.length ≤ 1000000) : OpW (W.own a h1 h2) prog w n (st, l) (Call (.builtin "list.append")) [.raw (.ref a), d] .none (st, l ++ [d]) := fun A U s vs rm stat mu low hold q => by
  obtain ⟨u, v, rfl, q1, q2⟩ := q.two
  have := q1.of_raw; subst this
  obtain ⟨ws, ⟨m, ho⟩, r⟩ := hold.2
  refine call_meets PySem.F.slot_list_append ⟨_, ho, rfl⟩ PySem.F.entry_list_append (PySem.F.args_list_append_2 _ _) (AutoListH.list_append_list_val_0 a ws.toArray m v (by simp [r.length]; exact Nat.le_trans hsz (by decide))) ⟨ho, ?_⟩
  have keep : ∀ b o, b ≠ a → s.heap.get? b = some o → (s.heap.update a (Obj.mapSeq fun x => x.push v)).get? b = some o := fun b o hb e => (Heap.get?_update_other _ _ (Ne.symm hb)).trans e
  refine ⟨⟨fun b o mb e => keep b o (fun q => mb (.inr q)) e, rfl, Nat.le_refl _, fun _ _ => rfl, fun b => b⟩, ⟨W.stable hold.1 (fun b o fb e => keep b o (fun q => h2 (q ▸ fb)) e) (fun b o e => keep b o (fun q => by rw [q, h1] at e; cases e) (stat b o e)), ws ++ [v], ?_, r.flat.snoc (q2.toFlat hf)⟩, .none⟩
  obtain ⟨m', hm⟩ := Obj.data_mapSeq (o := { cls := .type "list", data := .seq ws.toArray m }) rfl (fun x => x.push v)
  refine ⟨m', (Heap.get?_update_self _ ho (Obj.isFreed_of_seq hm)).trans ?_⟩
  have e2 : (ws ++ [v]).toArray = ws.toArray.push v := by simp
  rw [e2, ← hm]; rfl
end
end
section
/-! sources whose state is more than the heap: generators -/
structure Mvd (G0 : Nat) (wr : List Addr) (s s' : Shared) : Prop where
  heap : ∀ b o, b ∉ wr → s.heap.get? b = some o → s'.heap.get? b = some o
  os : s'.os = s.os
  gsize : s.gens.size ≤ s'.gens.size
  gens : ∀ g, g < G0 → s'.gens[g]? = s.gens[g]?
  bare : AllBare s.gens → AllBare s'.gens
theorem Ext.mvd {M : Addr → Prop} {s s' s'' : Shared} {wr : List Addr} (x : Ext M s s') (y : Mvd s.gens.size wr s' s'') (h : ∀ b ∈ wr, M b) : Ext M s s'' :=
  ⟨fun b o nb e => y.heap b o (fun m => nb (h b m)) (x.keep b o nb e), y.os.trans x.os, Nat.le_trans x.gsize y.gsize, fun g hg => (y.gens g hg).trans (x.gens g hg), fun b => y.bare (x.bare b)⟩

section
variable {hS : Heap}
/-- a source: St i ow s tells that it stands ahead of its item i and that the addresses ow are its own -/
structure Src (hS : Heap) (prog : Program) (w : World) (A : Around) (s₀ : Shared) (I : Addr) (tss : List (List D)) (St : Nat → List Addr → Shared → Prop) : Prop where
  frame : ∀ i ow s s', 0 < i → St i ow s → (∀ b o, s₀.heap.get? b = none → s.heap.get? b = some o → s'.heap.get? b = some o) → (∀ b o, hS.get? b = some o → s'.heap.get? b = some o) → (∀ g, g < s.gens.size → s'.gens[g]? = s.gens[g]?) → St i ow s'
  item : ∀ i ow s (Q : Option Value → Shared → Prop) (ts : List D), tss[i]? = some ts → St i ow s → (∀ T vs s' ow', s.heap.get? T = none → T ∉ ow' → s'.heap.IsTuple T vs.toArray → Reps Flat s'.heap vs ts → St (i + 1) ow' s' → (∀ b ∈ ow, b ∈ ow') → (∀ b ∈ ow', b ∈ ow ∨ s.heap.get? b = none) →
    Mvd s₀.gens.size ow s s' → Q (some (.ref T)) s') → wpAny (model prog w) A (pyNext (.ref I)) Q (fun _ _ => False) s
  done : ∀ ow s (Q : Option Value → Shared → Prop), St tss.length ow s → (∀ s', Mvd s₀.gens.size ow s s' → Q none s') → wpAny (model prog w) A (pyNext (.ref I)) Q (fun _ _ => False) s
  go : ∀ i ow s (t : Expr) (v : Value) (Q : Unit → Shared → Prop), St i ow s → Q () s → wpAny (model prog w) A (letOwnedTupleGo t (.ref I) v) Q (fun _ _ => False) s
  seen : ∀ i ow s, St i ow s → ∀ b ∈ ow, ∃ o, s.heap.get? b = some o
  new : ∀ i ow s, St i ow s → ∀ b ∈ ow, s₀.heap.get? b = none

noncomputable def ItS (hS : Heap) (prog : Program) (w : World) (A : Around) (s₀ s₂ : Shared) (it : Value) (tss : List (List D)) : Prop :=
  ∃ I St ow, it = .ref I ∧ Src hS prog w A s₀ I tss St ∧ St 0 ow s₂
noncomputable def EVis {hS : Heap} (prog : Program) (w : World) (n : Nat) (W : Wd hS) (sc : Scope) (vars : List Str) (ρ : List (Option D)) (st : W.σ) (e : Expr) (tss : List (List D)) (st' : W.σ) : Prop :=
  ∀ (A : Around) (env : Env) (U : Addr → Prop) (s : Shared), Room A n → Fits sc env → Stand W U env vars ρ st s →
    wpAny (model prog w) A (eval e env) (fun xv s₁ => wpAny (model prog w) A (pyIter xv) (fun it s₂ => Ext W.Mut s s₂ ∧ W.holds st' s₂ ∧ ItS hS prog w A s s₂ it tss) (fun _ _ => False) s₁) (fun _ _ => False) s

variable {prog : Program} {w : World} {n : Nat}
variable {W : Wd hS} {sc : Scope} {vars : List Str} {ρ ρ' : List (Option D)} {st st₁ st₂ st₃ : W.σ}

theorem EX.forS {β : Type} {target iter : Expr} {body rest : List Stmt} {pos : Pos} {o : Out W.σ} (tx : List Str) (tss : List (List D)) (ρof : β → List (Option D)) (sof : β → W.σ) (ρ1 : β → List D → List (Option D)) (step : β → List D → β ⊕ (D × W.σ)) (b₀ : β) (Ok : β → List (List D) → Prop)
    (hsrc : EVis prog w n W sc vars ρ st iter tss (sof b₀)) (hρ : Less (ρof b₀) ρ) (h0 : Ok b₀ tss) (htx : ∀ x ∈ tx, x ∈ vars)
    (hturn : ∀ b x post, Ok b (x :: post) → AS prog w W sc vars tx target (.tuple x) (ρof b) (ρ1 b x) ∧ (∀ b', step b x = .inl b' → Ok b' post ∧ ∃ ob ρ', EX prog w n W sc vars (ρ1 b x) (sof b) body ob ∧ Goes ob ρ' (sof b') ∧ Less (ρof b') ρ') ∧
      (∀ r, step b x = .inr r → EX prog w n W sc vars (ρ1 b x) (sof b) body (.ret r.1 r.2)))
    (hend : ∀ b, loopF step b₀ tss = .inl b → EX prog w n W sc vars (ρof b) (sof b) rest o) (hret : ∀ r, loopF step b₀ tss = .inr r → o = .ret r.1 r.2)
    (hfs : ∀ env x, foldedSetIterable iter env x = pure x := by intro _ _; rfl) :
    EX prog w n W sc vars ρ st (.For target iter body [] pos :: rest) o := fun A env U s rm ft I hs => by
  refine wpAny_execs_cons (wpAny_For (hs := hfs env) (wpAny_mono (hsrc A env U s rm ft I) (fun xv s1 h1 => wpAny_mono h1 (fun it s₂ h2 => ?_) fun _ _ x => x.elim) fun _ _ x => x.elim))
  obtain ⟨x2, hold2, Iad, St, ow0, rfl, Wk, st0⟩ := h2
  let Fr : Addr → Prop := fun b => s.heap.get? b = none
  let Chg : Addr → Prop := fun b => May W env vars b ∨ Fr b
  have fresh_own : ∀ b, Own env vars b → ¬ Fr b := fun b o (hm : s.heap.get? b = none) => by
    rcases o with rfl | ⟨y, _, hc⟩
    · obtain ⟨_, o, _, _, e, _⟩ := I.ns; rw [hm] at e; cases e
    · obtain ⟨_, o, e, _⟩ := I.cellv y b hc; rw [hm] at e; cases e
  have fresh_cell : ∀ y c, env.cells.lookup y = some c → ¬ Fr c := fun y c hc (hm : s.heap.get? c = none) => by
    obtain ⟨_, o, e, _⟩ := I.cellv y c hc; rw [hm] at e; cases e
  have fresh_foot : ∀ a, W.foot a → ¬ Fr a := fun a m (hm : s.heap.get? a = none) => by obtain ⟨o', e'⟩ := W.alive I.hold a m; rw [hm] at e'; cases e'
  have fresh_U : ∀ a, U a → ¬ Fr a := fun a m (hm : s.heap.get? a = none) => by obtain ⟨o', e'⟩ := I.low a m; rw [hm] at e'; cases e'
  have fresh_S : ∀ a o, hS.get? a = some o → ¬ Fr a := fun a o e (hm : s.heap.get? a = none) => by have := I.static a o e; rw [hm] at this; cases this
  have fpn : ∀ b, Fr b → ¬ May W env vars b := fun b hb m => m.elim (fun m => fresh_foot b (W.mutF b m) hb) fun m => fresh_own b m hb
  let U' : List Addr → Addr → Prop := fun ow a => U a ∨ a ∈ ow
  have I2 : Stand W (U' ow0) env vars (ρof b₀) (sof b₀) s₂ := (I.grow x2 hold2 (fun a => a ∈ ow0) (Wk.new _ _ _ st0) (fun a ha => Wk.seen 0 _ _ st0 a ha)).forget hρ.spec
  -- what a step of the source does to the frame's facts
  have cross : ∀ {b : List (Option D)} {sb : W.σ} {s' s'' : Shared} {ow ow' : List Addr}, Stand W (U' ow) env vars b sb s' → Mvd s.gens.size ow s' s'' → (∀ a ∈ ow', ∃ o, s''.heap.get? a = some o) → (∀ a ∈ ow, Fr a) → (∀ a ∈ ow', a ∈ ow ∨ s'.heap.get? a = none) → Stand W (U' ow') env vars b sb s'' := fun {b} {sb} {s'} {s''} {ow} {ow'} J y l fr nw => by
    have k : ∀ a o, ¬ Fr a → s'.heap.get? a = some o → s''.heap.get? a = some o := fun a o hn e => y.heap a o (fun m => hn (fr a m)) e
    refine ⟨fun a o e => k a o (fresh_S a o e) (J.static a o e), fun a m => .inl (I.mutU a m), fun a u => ?_, W.stable J.hold (fun a o fa e => k a o (fresh_foot a fa) e) fun a o e => k a o (fresh_S a o e) (J.static a o e), ?_, J.locals, J.localsS, J.cells, J.cellsS, fun z c hc => ?_, J.inj, fun i z d h1 h2 => ?_⟩
    · rcases u with u | u
      · obtain ⟨o, e⟩ := J.low a (.inl u); exact ⟨o, k a o (fresh_U a u) e⟩
      · exact l a u
    · obtain ⟨m, hm⟩ := J.ns; exact ⟨m, hm.at' fun o e => k _ o (fresh_own _ (.inl rfl)) e⟩
    · obtain ⟨u, hu⟩ := J.cellv z c hc; exact ⟨u, isCell_at hu fun o e => k _ o (fresh_cell z c hc) e⟩
    · obtain ⟨u, hu, hr⟩ := J.sto i z d h1 h2
      refine ⟨u, hu.at (fun o e => k _ o (fresh_own _ (.inl rfl)) e) (fun c hc o e => k _ o (fresh_cell _ c hc) e), hr.move fun a o nu _ e => ⟨y.heap a o (fun m => nu (.inr m)) e, ?_⟩⟩
      rintro (u | u)
      · exact nu (.inl u)
      · rcases nw a u with q | q
        · exact nu (.inr q)
        · rw [q] at e; cases e
  have finish : ∀ {s' : Shared} {fl : Flow} {o' : Out W.σ} {ow : List Addr}, Ext Chg s s' → o'.post W rfl (U' ow) env vars fl s' → Ext (May W env vars) s s' ∧ o'.post W rfl U env vars fl s' := fun {s'} {fl} {o'} {ow} xc p => by
    refine ⟨⟨fun b ob nb e => xc.keep b ob ?_ e, xc.os, xc.gsize, xc.gens, xc.bare⟩, ?_⟩
    · rintro (m | m)
      · exact nb m
      · rw [show s.heap.get? b = none from m] at e; cases e
    · cases o' with
      | next => exact ⟨p.1, p.2.shrink (fun _ => .inl) I.mutU⟩
      | cont => exact ⟨p.1, p.2.shrink (fun _ => .inl) I.mutU⟩
      | brk => exact ⟨p.1, p.2.shrink (fun _ => .inl) I.mutU⟩
      | ret => obtain ⟨v, e, h, r⟩ := p; exact ⟨v, e, h, r.move fun a _ nu _ e => ⟨e, fun u => nu (.inl u)⟩⟩
  let J : Nat → Shared → Prop := fun k s' => ∃ b pre post, tss = pre ++ post ∧ k = post.length + 1 ∧ ∃ ow, loopF step b₀ tss = loopF step b post ∧ Ok b post ∧ St pre.length ow s' ∧ Ext Chg s s' ∧ Stand W (U' ow) env vars (ρof b) (sof b) s'
  refine codeAny_forLoop_any J ?_ (tss.length + 1) ⟨b₀, [], tss, rfl, rfl, ow0, rfl, h0, st0, x2.mono fun a m => .inl (.inl m), I2⟩
  rintro k s' ⟨b, pre, post, hxs, rfl, ow, hlf, hok, hst, xc, cI⟩
  have frw : ∀ a ∈ ow, Fr a := Wk.new _ _ _ hst
  cases post with
  | nil =>
    have hpre : pre = tss := by rw [hxs]; simp
    refine false_any (Wk.done ow s' _ (by rw [← hpre]; exact hst) fun s'' y => ?_)
    refine wpAny_execs_nil ?_
    have sh := cI.shrink (U := U) (fun _ => .inl) I.mutU
    have k : ∀ a o, ¬ Fr a → s'.heap.get? a = some o → s''.heap.get? a = some o := fun a o hn e => y.heap a o (fun m => hn (frw a m)) e
    have cI1 : Stand W U env vars (ρof b) (sof b) s'' := by
      refine ⟨fun a o e => k a o (fresh_S a o e) (cI.static a o e), I.mutU, fun a u => let ⟨o, e⟩ := sh.low a u; ⟨o, k a o (fresh_U a u) e⟩, W.stable cI.hold (fun a o fa e => k a o (fresh_foot a fa) e) fun a o e => k a o (fresh_S a o e) (cI.static a o e), ?_, cI.locals, cI.localsS, cI.cells, cI.cellsS, fun z c hc => ?_, cI.inj, fun i z d h1 h2 => ?_⟩
      · obtain ⟨m, hm⟩ := cI.ns; exact ⟨m, hm.at' fun o e => k _ o (fresh_own _ (.inl rfl)) e⟩
      · obtain ⟨u, hu⟩ := cI.cellv z c hc; exact ⟨u, isCell_at hu fun o e => k _ o (fresh_cell z c hc) e⟩
      · obtain ⟨u, hu, hr⟩ := cI.sto i z d h1 h2
        exact ⟨u, hu.at (fun o e => k _ o (fresh_own _ (.inl rfl)) e) (fun c hc o e => k _ o (fresh_cell _ c hc) e), hr.move fun a o nu _ e => ⟨y.heap a o (fun m => nu (.inr m)) e, fun u => nu (.inl u)⟩⟩
    have x3 := (finish (o' := .next (ρof b) (sof b)) (fl := .next) (s' := s') xc ⟨rfl, cI⟩).1
    have x4 : Ext (May W env vars) s s'' := ⟨fun b o hb e => y.heap b o (fun m => by rw [show s.heap.get? b = none from frw b m] at e; cases e) (x3.keep b o hb e), y.os.trans x3.os, Nat.le_trans x3.gsize y.gsize, fun g hg => (y.gens g hg).trans (x3.gens g hg), fun q => y.bare (x3.bare q)⟩
    exact wpAny_mono (hend b hlf A env U _ rm ft cI1 hs) (fun fl s'' q => ⟨x4.trans q.1, q.2⟩) fun _ _ x => x
  | cons x post =>
    have hi : tss[pre.length]? = some x := by rw [hxs]; simp
    refine false_any (Wk.item pre.length ow s' _ x hi hst fun T vs s'' ow' hT hTo htup hrep hst' _ hnew y => ?_)
    have stand1 := cross cI y (Wk.seen _ _ _ hst') frw hnew
    have hTU : ¬ U' ow' T := fun u => u.elim (fun u => by obtain ⟨o, e⟩ := cI.low T (.inl u); rw [hT] at e; cases e) hTo
    have hrv : Rep (U' ow') s''.heap (.ref T) (.tuple x) := .tuple T vs x hTU htup hrep.flat
    have xc1 : Ext Chg s s'' := xc.mvd y fun b m => .inr (frw b m)
    obtain ⟨hA, hgo, hre⟩ := hturn b x post hok
    refine Wk.go _ _ _ _ _ _ hst' ?_ |> fun z => wpAny_mono z (fun _ _ q => q) fun _ _ f => f.elim
    refine wpAny_mono (hA (v := .ref T) rm.handled ft stand1 (fun y hy => hs y (htx y hy)) hrv) (fun _ s2 q2 => ?_) fun _ _ f => f.elim
    obtain ⟨xa, stand2⟩ := q2
    have xc2 : Ext Chg s s2 := xc1.trans (xa.mono fun a o => .inl (.inr (Own.mono htx a o)))
    have hst2 : St (pre.length + 1) ow' s2 := Wk.frame _ _ _ _ (Nat.succ_pos _) hst' (fun b o hb e => xa.keep b o (fun q => fpn b hb (.inr (Own.mono htx b q))) e) stand2.static xa.gens
    cases hsp : step b x with
    | inl b' =>
      obtain ⟨hok', ob, ρ', hex, hg, hw⟩ := hgo b' hsp
      refine wpAny_mono (hex A env (U' ow') s2 rm ft stand2 hs) (fun fl s3 q3 => ?_) fun _ _ f => f.elim
      obtain ⟨xb, pb⟩ := q3
      have nextJ : Stand W (U' ow') env vars ρ' (sof b') s3 → ∃ m, m < (x :: post).length + 1 ∧ J m s3 := fun I3 =>
        ⟨post.length + 1, by simp, b', pre ++ [x], post, by rw [hxs]; simp, rfl, ow', by rw [hlf, loopF, hsp], hok',
          by have := Wk.frame _ _ _ _ (Nat.succ_pos _) hst2 (fun b o hb e => xb.keep b o (fpn b hb) e) I3.static xb.gens; simpa using this, xc2.trans (xb.mono fun a m => .inl m), I3.forget hw.spec⟩
      rcases hg with rfl | rfl
      · obtain ⟨rfl, I3⟩ := pb; exact nextJ I3
      · obtain ⟨rfl, I3⟩ := pb; exact nextJ I3
    | inr r =>
      refine wpAny_mono (hre r hsp A env (U' ow') s2 rm ft stand2 hs) (fun fl s3 q3 => ?_) fun _ _ f => f.elim
      obtain ⟨xb, v', rfl, hh, hr⟩ := q3
      have ho : o = .ret r.1 r.2 := hret r (by rw [hlf, loopF, hsp])
      rw [ho]
      exact finish (o' := .ret r.1 r.2) (fl := .ret v') (xc2.trans (xb.mono fun a m => .inl m)) ⟨v', rfl, hh, hr⟩
end
end
section
section
variable {M : Model} {A : Around} {R : GenEnd} {Y : Protocol} {n : Nat} {s₀ : Shared} {c : Code} {fs : List Frame} {s : Shared} {env : Env}
  {K : Flow → Sem Fin} {H : Value → Sem Fin} {gd : Bool → Bool} {lv : List Value → List Value}

theorem seg_If {test : Expr} {body orelse : List Stmt} {pos : Pos}
    (h : wpAny M (A.over c fs) (isTrue test env (eval test env)) (fun b s' => Seg M A R Y n s₀ c ((execs (if b = true then body else orelse) env).wrap K H gd lv) fs s') (fun x s' => Seg M A R Y n s₀ c (H x) fs s') s) :
    Seg M A R Y n s₀ c ((exec (.If test body orelse pos) env).wrap K H gd lv) fs s := by
  have e : exec (.If test body orelse pos) env = (standAt pos >>= fun _ => isTrue test env (eval test env) >>= fun b => execs (if b = true then body else orelse) env) := by
    rw [exec_If]
    congr 1
    funext _
    congr 1
    funext b
    cases b <;> rfl
  rw [e]
  show Seg M A R Y n s₀ c (.at pos fun _ => ((isTrue test env (eval test env) >>= fun b => execs (if b = true then body else orelse) env)).wrap K H gd lv) fs s
  refine seg_at ?_
  rw [Sem.bind_eq_wrap', Sem.wrap_wrap]
  exact seg_wrap (wpAny_mono h (fun b s' h' => h') fun _ _ x => x)

/-- the frame that a loop's code returns to -/
noncomputable def loopFrame (K : Flow → Sem Fin) (H : Value → Sem Fin) (gd : Bool → Bool) (lv : List Value → List Value) (env : Env) (c : Code) (p : Pos) : Frame :=
  .ret (fun r => ((match r with | .ok f => (.pure f : Sem Flow) | .error e => .raise e).onRaise fun (x : Value) => do
        if (← field x 1) == Value.none then unsupported "frame.own-activation:exception-without-traceback"
        setFlight x env.frame).wrap K H gd lv) none (gd false) (lv []) c p []
theorem seg_For {target iter : Expr} {body orelse : List Stmt} {pos : Pos} (hfs : ∀ x, foldedSetIterable iter env x = pure x)
    (h : wpAny M (A.over c fs) (eval iter env) (fun x s1 => wpAny M (A.over c fs) (pyIter x) (fun it s2 => ∀ p, Seg M A R Y n s₀ (.forLoop target it body orelse env) (M.den (.forLoop target it body orelse env)) (loopFrame K H gd lv env c p :: fs) s2)
      (fun x s' => Seg M A R Y n s₀ c (H x) fs s') s1) (fun x s' => Seg M A R Y n s₀ c (H x) fs s') s) :
    Seg M A R Y n s₀ c ((exec (.For target iter body orelse pos) env).wrap K H gd lv) fs s := by
  have e : exec (.For target iter body orelse pos) env = ((standAt pos >>= fun _ => eval iter env >>= fun x => standAt iter.pos >>= fun _ => holding [x] (pyIter x)) >>= fun it => runOwn (.forLoop target it body orelse env) env) := by
    rw [exec_For]
    simp only [hfs, bind_assoc, pure_bind]
  rw [e, Sem.bind_eq_wrap', Sem.wrap_wrap]
  refine seg_wrap (wpAny_bind (wpAny_standAt (wpAny_bind (wpAny_mono h (fun x s1 h1 => wpAny_bind (wpAny_standAt (wpAny_holding (wpAny_mono h1 (fun it s2 h2 => ?_) fun _ _ x => x)))) fun _ _ x => x))))
  exact seg_call h2
end

section
variable {prog : Program} {w : World} {A : Around} {R : GenEnd} {Y : Protocol} {n : Nat} {s₀ : Shared} {fs : List Frame} {s : Shared} {env : Env}
/-- what goes on behind a turn's body -/
noncomputable def turnK (target : Expr) (it : Value) (body orelse : List Stmt) (env : Env) : Flow → Sem Fin := fun f => match f with
  | .next | .cont => .pure (.again (.forLoop target it body orelse env))
  | .brk => .pure (.done .next)
  | .ret v => .pure (.done (.ret v))
noncomputable def turnH (env : Env) : Value → Sem Fin := fun e => (do noteFrame e env; theTreesLotGoes e : Sem Unit).bind fun _ => .raise e
theorem seg_forLoop {target : Expr} {it : Value} {body orelse : List Stmt}
    (h : wpAny (model prog w) (A.over (.forLoop target it body orelse env) fs) (pyNext it) (fun r s1 => match r with
      | none => Seg (model prog w) A R Y n s₀ (.forLoop target it body orelse env) (.pure (.again (.block orelse env))) fs s1
      | some v => wpAny (model prog w) (A.over (.forLoop target it body orelse env) fs) (letOwnedTupleGo target it v) (fun _ s2 => wpAny (model prog w) (A.over (.forLoop target it body orelse env) fs) (assign target env v) (fun _ s3 =>
          Seg (model prog w) A R Y n s₀ (.forLoop target it body orelse env) ((execs body env).wrap (turnK target it body orelse env) (turnH env) id id) fs s3) (fun _ _ => False) s2) (fun _ _ => False) s1) (fun _ _ => False) s) :
    Seg (model prog w) A R Y n s₀ (.forLoop target it body orelse env) ((model prog w).den (.forLoop target it body orelse env)) fs s := by
  show Seg _ A R Y n s₀ _ ((forTurn target it body orelse env).onRaise (fun x => do noteFrame x env; theTreesLotGoes x)) fs s
  unfold forTurn
  rw [Sem.onRaise_eq_wrap]
  show Seg _ A R Y n s₀ _ (.at target.pos fun _ => (((pyNext it).onRaise (fun _ => standAt { target.pos with line := 0 })) >>= _).wrap _ _ _ _) fs s
  refine seg_at ?_
  rw [Sem.bind_eq_wrap', Sem.wrap_wrap]
  refine seg_wrap (wpAny_onRaise (wpAny_mono h (fun r s1 h1 => ?_) fun _ _ x => x.elim))
  cases r with
  | none => exact h1
  | some v =>
    show Seg _ A R Y n s₀ _ ((letOwnedTupleGo target it v >>= fun _ => assign target env v >>= fun _ => execs body env >>= fun f => match f with
      | .next | .cont => again (.forLoop target it body orelse env)
      | .brk => pure (.done .next)
      | .ret v => pure (.done (.ret v))).wrap _ _ _ _) fs s1
    rw [Sem.bind_eq_wrap', Sem.wrap_wrap]
    refine seg_wrap (wpAny_mono h1 (fun _ s2 h2 => ?_) fun _ _ x => x.elim)
    rw [Sem.bind_eq_wrap', Sem.wrap_wrap]
    refine seg_wrap (wpAny_mono h2 (fun _ s3 h3 => ?_) fun _ _ x => x.elim)
    rw [Sem.bind_eq_wrap', Sem.wrap_wrap]
    refine Eq.mp (congrArg (fun t => Seg (model prog w) A R Y n s₀ (.forLoop target it body orelse env) t fs s3) ?_) h3
    exact Sem.wrap_congr (execs body env) id id (fun f => by cases f <;> rfl) (fun e => rfl)
theorem seg_block_nil (h : ∀ c, Seg (model prog w) A R Y n s₀ c (.pure (.done .next)) fs s) : Seg (model prog w) A R Y n s₀ (.block [] env) ((model prog w).den (.block [] env)) fs s := by
  show Seg _ A R Y n s₀ _ ((execs [] env).onRaise (fun x => do noteFrame x env; theTreesLotGoes x) >>= fun f => .pure (.done f)) fs s
  exact h _
/-- a loop ends: back to the frame behind it -/
theorem seg_leave {K : Flow → Sem Fin} {H : Value → Sem Fin} {gd : Bool → Bool} {lv : List Value → List Value} {c c' : Code} {p : Pos} (f : Flow) (h : Seg (model prog w) A R Y n s₀ c (K f) fs s) :
    Seg (model prog w) A R Y n s₀ c' (.pure (.done f)) (loopFrame K H gd lv env c p :: fs) s := seg_leaf (.ok f) h

/-- the next of a generator function -/
theorem next_gen {a : Addr} {g n : Nat} {gs : GenState} {P : Nat → Shared → Shared → Prop} {Y : Protocol} {Q : Option Value → Shared → Prop} {E : Value → Shared → Prop} (hh : A.handled = none)
    (hl : s.heap.NoLimit) (hroom : A.depth < recursionLimit) (hg : s.heap.IsGen a g) (hgs : s.gens[g]? = some gs)
    (hgo : gs.Goes (model prog w) A.in1 (fun n s₀ r s₁ => r = .ok (.ret .none) ∧ P n s₀ s₁) Y n (.send .none) (s.setGen g .running))
    (hY : ∀ v s₁ gs', gs'.bare = true → Y (n - 1) (s.setGen g .running) v s₁ (fun r' s'' => match n with
        | 0 => False
        | m + 1 => gs'.Goes (model prog w) A.in1 (fun n s₀ r s₁ => r = .ok (.ret .none) ∧ P n s₀ s₁) Y m r' s'') → Q (some v) (s₁.setGen g gs'))
    (hP : ∀ s₁, P n (s.setGen g .running) s₁ → ∀ h', (∀ b o, s₁.heap.get? b = some o → h'.get? b = some o) → Q none { s₁.setGen g .finished with heap := h' }) :
    wpAny (model prog w) A (pyNext (.ref a)) Q E s := by
  unfold pyNext
  refine wpAny_bind (wpAny_attempt (wpAny_callSpecial?_slot (name := Str.ofString "__next__") hg.typeIs slot_gen_next (wpAny_call_entry slot_gen_next hg.typeIs entry_gen_next ?_ (args_gen_next _))))
  show wpAny _ _ (Builtin.Generator.genWake (.ref a) (.send .none)) _ _ s
  unfold Builtin.Generator.genWake
  refine wpAny_bind (wpAny_holding (wpAny_genNumber hg (wpAny_bind (wpAny_genState hgs ?_))))
  cases gs with
  | running => exact hgo.elim
  | finished => exact hgo.elim
  | _ =>
    refine wpAny_bind (wpAny_roomToWake hl hroom ?_)
    show wpAny _ _ (.resume g (.send .none) [] _) _ _ s
    refine wpAny_resumeQ hgs hgo (fun x s₁ hx => ?_) (fun v s₁ gs' hb hv => wpAny_pure ⟨v, rfl, wpAny_pure (hY v s₁ gs' hb hv)⟩)
    obtain ⟨rfl, hp⟩ := hx
    show wpAny _ _ (newExc (.type "StopIteration") [] >>= _) _ _ _
    refine wpAny_bind ?_
    simp only [newExc, newTuple]
    refine wpAny_bind (wpAny_newObj_type ?_ (by size_fits))
    refine wpAny_bind (m := firstArgMember _ _) (wpAny_of_eq (a := Value.none) (by first | rfl | (simp only [firstArgMember]; rfl)) ?_)
    refine wpAny_newObj_type ?_ (by size_fits)
    simp only [raiseNew]
    refine wpAny_bind (wpAny_bind (wpAny_handled ?_))
    rw [show A.in1.handled = none from hh]
    refine wpAny_throw (wpAny_bind (wpAny_isInstance (T := "StopIteration") (b := true) ⟨_, Heap.get?_push_size _ rfl, rfl⟩ isSubtype_stop ?_))
    exact wpAny_pure (hP s₁ hp _ fun b o hb => Heap.get?_push_of_some _ (Heap.get?_push_of_some _ hb))
end
end
section
noncomputable def goE : Nat → Bool → List Nat → List (Int × List Nat)
  | i, true, [] => [((i : Int) - 1, [92])]
  | _, false, [] => []
  | i, true, c :: r => ((i : Int), [92, c]) :: goE (i + 1) false r
  | i, false, c :: r => if c = 92 then goE (i + 1) true r else ((i : Int), [c]) :: goE (i + 1) false r
noncomputable def tD (x : Int × List Nat) : List D := [.int x.1, .str (S x.2)]
noncomputable abbrev gv : List Str := ["addr", "pos", "escape", "ch"]
noncomputable abbrev sG : Scope := fdScope (top 4)
noncomputable abbrev bG : List Stmt := fdBody (top 4)
noncomputable def lastP (i : Nat) : Int := if i = 0 then 0 else (i : Int) - 1

theorem room_func {A : Around} {n : Nat} (r : Room A (n + 1)) (body : List Stmt) (env : Env) : Room (A.over (.func body env) []) n := by
  have e1 : (if (Code.func body env).isFrame = true then 1 else 0) ≤ 1 := by split <;> omega
  refine ⟨r.handled, ?_, ?_⟩
  · have := r.depth
    simp [Around.over, Code.weight, Code.frames, Code.isCreation, Code.isGuard, Code.isCaller, frameCount]
    omega
  · have := r.units
    simp [Around.over, Code.cUnits, Code.frames, unitsOf]
    omega
theorem room_loop {A : Around} {n : Nat} (r : Room A (n + 2)) {K : Flow → Sem Fin} {H : Value → Sem Fin} {lv : List Value → List Value} {env : Env} {p : Pos} (t : Expr) (it : Value) (b o : List Stmt) (body : List Stmt) : Room (A.over (.forLoop t it b o env) [loopFrame K H id lv env (.func body env) p]) n := by
  have e1 : (if (Code.func body env).isFrame = true then 1 else 0) ≤ 1 := by split <;> omega
  have e2 : (if (Code.forLoop t it b o env).isFrame = true then 1 else 0) ≤ 1 := by split <;> omega
  refine ⟨?_, ?_, ?_⟩
  · have := r.handled
    simp [Around.over, marksOver, loopFrame, Frame.marks, this, markOver]
  · have := r.depth
    simp [Around.over, loopFrame, Frame.where_, Code.weight, Code.frames, Code.isCreation, Code.isGuard, Code.isCaller, frameCount]
    omega
  · have := r.units
    simp [Around.over, loopFrame, Frame.where_, Code.cUnits, Code.frames, unitsOf]
    omega
section
variable {hS : Heap} {prog : Program} {w : World} {n : Nat}
variable {W : Wd hS} {sc : Scope} {vars : List Str} {ρ ρ' : List (Option D)} {st : W.σ}
theorem Stand.reU {U V : Addr → Prop} {env : Env} {s : Shared} (I : Stand (Wd.still hS) U env vars ρ () s) (hf : ∀ d, some d ∈ ρ → isFlat d = true) (low : ∀ a, V a → ∃ o, s.heap.get? a = some o) : Stand (Wd.still hS) V env vars ρ () s :=
  ⟨I.static, fun _ m => m.elim, low, I.hold, I.ns, I.locals, I.localsS, I.cells, I.cellsS, I.cellv, I.inj, fun i x d h1 h2 => by
    obtain ⟨v, hv, hr⟩ := I.sto i x d h1 h2
    exact ⟨v, hv, (hr.toFlat (h' := s.heap) (hf d (List.mem_of_getElem? h2))).flat⟩⟩
end
end
local macro_rules | `(tactic| walk_at "at") => `(tactic| repeat (first | with_reducible exact At.here | with_reducible apply At.there))
local macro_rules | `(tactic| walk_at "put") => `(tactic| repeat (first | with_reducible exact Put.here | with_reducible apply Put.there))
local macro_rules | `(tactic| walk_at "op") => `(tactic| with_reducible first
  | apply op_eq | apply op_add | apply op_sub | apply op_fadd | apply op_fsub | apply op_fmul | apply oMul | apply oMod | apply oDiv | apply oPow | apply oTdiv | apply op_fdiv | apply op_fmod | apply op_fsub_i | apply op_imul_f | apply op_ne | apply op_lt | apply op_gt | apply op_feq | apply op_seq | apply op_sne | apply op_isb | apply op_isnotb | apply op_isNoneNone | apply op_isIntNone | apply op_sadd | apply op_ladd
  | ((first | apply oLitem | apply oTitem | apply oSitem) <;> walk_at "gone")
  | apply op_max3 | apply op_min3 | apply op_max2 | apply op_min2 | apply op_sum | apply op_intf | apply oRound | apply op_ord | apply oChr | apply op_iadd | apply op_isub | apply op_isadd | apply op_count | apply op_countb | apply op_slen | apply op_len | apply op_join | apply op_inotin | apply op_ieq | apply op_index)
local macro_rules | `(tactic| walk_at "ev") => `(tactic| first
  | with_reducible first
    | (apply aN <;> walk_at "gon1")
    | exact EV.int _ | exact EV.strS
  | ((with_reducible apply aB); (first | assumption | done); walk_at "gone")
  | ((with_reducible apply aG); (first | assumption | done); walk_at "gone")
  | with_reducible first
    | ((first | apply aBin | apply aSsl1 | apply aSsl2 | apply aItem | apply EV.call | apply aMeth | apply aC | apply EV.ifexp | apply aL | apply aT) <;> walk_at "go")
    | exact EV.floatC _ | exact EV.boolC _ | exact EV.noneC
  | skip)
local macro_rules | `(tactic| walk_at "go") => `(tactic| first
  | ((with_reducible apply EX.stay); (try simp only [List.cons_append, List.nil_append]); (first | walk_at "st" | skip))
  | ((with_reducible apply EV.stay); walk_at "ev")
  | ((with_reducible apply Op.stay); (first | walk_at "op" | skip))
  | ((with_reducible apply ET.stay); (first | (with_reducible apply tC <;> walk_at "go") | skip))
  | ((with_reducible apply EVs.stay); (first | with_reducible exact EVs.nil | (with_reducible apply aS <;> walk_at "go") | skip))
  | ((with_reducible apply EVit.stay); (first | (with_reducible apply aRange1 <;> walk_at "go") | (with_reducible apply aRange2 <;> walk_at "go") | (with_reducible apply aItT <;> walk_at "go") | (with_reducible apply EVit.list <;> walk_at "go") | skip))
  | ((with_reducible apply Dk.mk); decide +kernel)
  | ((with_reducible apply Tr.mk); intros; with_unfolding_all rfl)
  | (with_reducible exact At.here)
  | ((with_reducible apply At.there); walk_at "at"; done)
  | (with_reducible exact Put.here)
  | ((with_reducible apply Put.there); walk_at "put"; done)
  | (with_reducible first | exact meth_count | exact meth_join | exact meth_index)
  | with_reducible exact Callee.builtin _ | with_reducible exact Callee.type _
  | (intro hc; walk_at "go")
  | skip)
local macro_rules | `(tactic| walk_at "gon1") => `(tactic| first
  | ((with_reducible apply Dk.mk); decide +kernel)
  | (with_reducible exact At.here)
  | ((with_reducible apply At.there); walk_at "at"; done))
local macro_rules | `(tactic| walk_at "gone") => `(tactic| first
  | (with_reducible assumption)
  | exact ⟨by decide, by decide, rfl⟩
  | ((with_reducible apply Dk.mk); decide +kernel)
  | ((with_reducible apply Tr.mk); intros; with_unfolding_all rfl)
  | (with_reducible exact At.here)
  | ((with_reducible apply At.there); walk_at "at"; done) | skip)
local macro_rules | `(tactic| walk_at "st") => `(tactic| with_reducible first
  | apply aCompStop | ((first | apply aSet | apply aIf | apply aRet | apply aAug) <;> walk_at "go") | exact EX.nil | exact EX.continue_)
local macro_rules | `(tactic| walk_at "st0") => `(tactic| ((first | apply aSet | apply aIf | apply aRet | apply aAug) <;> walk_at "go"))
section
noncomputable def rgbH (r g b maxc rangec : UInt64) : UInt64 :=
  let rc := Float64.div (Float64.sub maxc r) rangec
  let gc := Float64.div (Float64.sub maxc g) rangec
  let bc := Float64.div (Float64.sub maxc b) rangec
  let h := bif Float64.cmp r maxc == some .eq then Float64.sub bc gc
    else bif Float64.cmp g maxc == some .eq then Float64.sub (Float64.add 4611686018427387904 rc) bc
    else Float64.sub (Float64.add 4616189618054758400 gc) rc
  (Float64.divmod (Float64.div h 4618441417868443648) 4607182418800017408).2
noncomputable def rgbF (r g b : UInt64) : UInt64 × UInt64 × UInt64 :=
  let maxc := fmax (fmax r g) b
  let minc := fmin (fmin r g) b
  bif Float64.cmp minc maxc == some .eq then (0, 0, maxc)
  else (rgbH r g b maxc (Float64.sub maxc minc), Float64.div (Float64.sub maxc minc) maxc, maxc)
noncomputable def rgbOk (r g b : UInt64) : Bool :=
  let maxc := fmax (fmax r g) b
  let minc := fmin (fmin r g) b
  Float64.cmp minc maxc == some .eq || (!Float64.isZero maxc && !Float64.isZero (Float64.sub maxc minc))
noncomputable def d3 (p : UInt64 × UInt64 × UInt64) : D := .tuple [.float p.1, .float p.2.1, .float p.2.2]
noncomputable def hsvF (h s v : UInt64) : UInt64 × UInt64 × UInt64 :=
  bif Float64.cmp s 0 == some .eq then (v, v, v) else
  let h6 := Float64.mul h 4618441417868443648
  let i := Flt.toInt Float64.truncOf h6
  let f := Float64.sub h6 (Float64.ofInt i)
  let p := Float64.mul v (Float64.sub 4607182418800017408 s)
  let q := Float64.mul v (Float64.sub 4607182418800017408 (Float64.mul s f))
  let t := Float64.mul v (Float64.sub 4607182418800017408 (Float64.mul s (Float64.sub 4607182418800017408 f)))
  let j := i % 6
  bif j == 0 then (v, t, p) else bif j == 1 then (q, v, p) else bif j == 2 then (p, v, t) else bif j == 3 then (p, q, v) else bif j == 4 then (t, p, v) else (v, p, q)
noncomputable def hsvOk (h s _v : UInt64) : Bool :=
  let h6 := Float64.mul h 4618441417868443648
  Float64.cmp s 0 == some .eq || (Float64.isFinite h6 && !Float64.isNaN h6 && !Float64.isInf h6 && !Float64.isInf (Float64.ofInt (Flt.toInt Float64.truncOf h6)))
theorem fmod6 (k : Int) (h0 : (k % 6 == 0) = false) (h1 : (k % 6 == 1) = false) (h2 : (k % 6 == 2) = false) (h3 : (k % 6 == 3) = false) (h4 : (k % 6 == 4) = false) (h5 : (k % 6 == 5) = false) : False := by
  simp only [beq_eq_false_iff_ne, ne_eq] at h0 h1 h2 h3 h4 h5

  omega
section
variable {hS : Heap} {prog : Program} {w : World} {n : Nat} {W : Wd hS} {st : W.σ}
set_option maxHeartbeats 2000000 in
theorem w_rgb {r g b : UInt64} (B : Base hS) (ok : rgbOk r g b = true) :
    EX prog w n W (fdScope (top 1)) ["r", "g", "b", "maxc", "minc", "rangec", "v", "s", "rc", "gc", "bc", "h"] [some (.float r), some (.float g), some (.float b), none, none, none, none, none, none, none, none, none] st (fdBody (top 1)) (.ret (d3 (rgbF r g b)) st) := by
  have g1 := B.max; have g2 := B.min
  walk_at "st0"
  all_goals (try (rename_i hc; simp [rgbOk, hc] at ok; first | exact ok.1 | exact ok.2))
  all_goals (try (simp [rgbOk, *] at ok; first | exact ok.1 | exact ok.2))
  all_goals (try decide +kernel)
  all_goals (try (simp only [d3, rgbF, rgbH, *, cond_true, cond_false]; done))
theorem c_rgb {r g b : UInt64} (B : Base hS) (ok : rgbOk r g b = true) : Op hS prog w (n + 1) (Call (.ref 21)) [.float r, .float g, .float b] (d3 (rgbF r g b)) :=
  fun_okL 9 B.lim B.rgb.at_ rfl rfl (by decide +kernel) (w_rgb B ok)
set_option maxHeartbeats 2000000 in
theorem w_hsv {h s v : UInt64} (B : Base hS) (ok : hsvOk h s v = true) : 
    EX prog w n W (fdScope (top 2)) ["h", "s", "v", "i", "f", "p", "q", "t"] [some (.float h), some (.float s), some (.float v), none, none, none, none, none] st (fdBody (top 2)) (.ret (d3 (hsvF h s v)) st) := by
  have g1 := B.int
  walk_at "st0"
  all_goals (try (rename_i hc; simp [hsvOk, hc] at ok; first | exact ok.1.1.1 | exact ok.1.1.2 | exact ok.1.2 | exact ok.2))
  all_goals (try decide +kernel)
  all_goals (try (simp only [d3, hsvF, *, cond_true, cond_false]; done))
  exact (fmod6 _ ‹_› ‹_› ‹_› ‹_› ‹_› ‹_›).elim
theorem c_hsv {h s v : UInt64} (B : Base hS) (ok : hsvOk h s v = true) : Op hS prog w (n + 1) (Call (.ref 28)) [.float h, .float s, .float v] (d3 (hsvF h s v)) :=
  fun_okL 5 B.lim B.hsv.at_ rfl rfl (by decide +kernel) (w_hsv B ok)
end
end
section
noncomputable def placesA (heap : Int) : List Int := (zs 0 4).map fun k => heap / 4 ^ k.toNat % 4
noncomputable def swapP (x : Int) : Int := if x = 1 then 2 else if x = 2 then 1 else x
noncomputable def placesF (heap : Int) : List Int := (if (placesA heap).count 1 > (placesA heap).count 2 then (placesA heap).map swapP else placesA heap) ++ [2]
theorem placesA_mem {heap x : Int} (h : x ∈ placesA heap) : 0 ≤ x ∧ x < 4 := by
  obtain ⟨k, _, rfl⟩ := List.mem_map.mp h
  omega
section
variable {hS : Heap} {prog : Program} {w : World} {n : Nat} {W : Wd hS} {st : W.σ}
set_option maxHeartbeats 2000000 in
theorem w_places {heap : Int} (B : Base hS) :
    EX prog w n W (fdScope (top 11)) ["heap", "places"] [some (.int heap), none] st (fdBody (top 11)) (.ret (dI (placesF heap)) st) := by
  have g1 := B.range
  refine aSetMI ["heap"] (zs 0 4) D.int (fun k => heap / 4 ^ k.toNat % 4) (by walk_at "go"; decide) (.cons .here .nil) ?_ (.there .here) ?_ (by decide)
  · intro k hk
    obtain ⟨i, hi, rfl⟩ := mem_zs hk
    walk_at "go"
    · omega
    · have : i = 0 ∨ i = 1 ∨ i = 2 ∨ i = 3 := by omega
      rcases this with rfl | rfl | rfl | rfl <;> decide
    · decide
  · have e0 : (zs 0 4).map (fun k => heap / 4 ^ k.toNat % 4) = placesA heap := rfl
    rw [e0]
    walk_at "st"
    · rename_i hc
      refine aSetMI [] (placesA heap) D.int swapP (by walk_at "go") .nil ?_ (.there .here) ?_ (by simp [placesA, zs])
      · intro x hx
        have := placesA_mem hx
        walk_at "go"
        refine ⟨by omega, by omega, ?_⟩
        have : x = 0 ∨ x = 1 ∨ x = 2 ∨ x = 3 := by omega
        rcases this with rfl | rfl | rfl | rfl <;> rfl
      · walk_at "st"
        · simp [placesA, zs]
        · simp only [decide_eq_true_eq] at hc
          unfold placesF
          rw [if_pos (by omega)]
          simp [dI]
    · simp [placesA, zs]
    · rename_i hc
      simp only [decide_eq_false_iff_not] at hc
      unfold placesF
      rw [if_neg (by omega)]
      simp [dI]
theorem c_places {heap : Int} (B : Base hS) : Op hS prog w (n + 1) (Call (.ref 103)) [.int heap] (dI (placesF heap)) :=
  fun_okL 1 B.lim B.places.at_ rfl rfl (by decide +kernel) (w_places B)
end
end
section
theorem s_empty : (Str.ofString "").cps.toList = [] := by decide +kernel
noncomputable def wayF (hue c : Int) : Int := let a := (hue - c) % 48; let b := (c - hue) % 48; if b < a then b else a
noncomputable def chW (hue share top c : Int) : Int :=
  let m := if wayF hue c - 8 > 0 then wayF hue c - 8 else 0
  48 + top - share * top / 8000 * (if m < 8 then m else 8)
noncomputable def wordF (hue share top : Int) : List Nat := [0, 16, 32].map fun c => (chW hue share top c).toNat
theorem chW_range {hue share top c : Int} (h1 : 0 ≤ share ∧ share ≤ 1000) (h2 : 0 ≤ top ∧ top ≤ 32) : 0 ≤ chW hue share top c ∧ chW hue share top c ≤ 1114111 := by
  unfold chW
  have a1 : 0 ≤ share * top := Int.mul_nonneg h1.1 h2.1
  have a2 : share * top ≤ 1000 * 32 := Int.mul_le_mul h1.2 h2.2 h2.1 (by omega)
  generalize share * top = z at *
  have b1 : 0 ≤ z / 8000 ∧ z / 8000 ≤ 4 := by omega
  generalize z / 8000 = y at *
  have : ∃ m : Int, 0 ≤ m ∧ m ≤ 8 ∧ (if (if wayF hue c - 8 > 0 then wayF hue c - 8 else 0) < 8 then (if wayF hue c - 8 > 0 then wayF hue c - 8 else 0) else 8) = m := by
    refine ⟨_, ?_, ?_, rfl⟩ <;> split <;> (try split) <;> omega
  obtain ⟨m, m1, m2, e⟩ := this
  simp only [e]
  have c1 : 0 ≤ y * m := Int.mul_nonneg b1.1 m1
  have c2 : y * m ≤ 4 * 8 := Int.mul_le_mul b1.2 m2 m1 (by omega)
  omega
section
variable {hS : Heap} {prog : Program} {w : World} {n : Nat} {W : Wd hS} {st : W.σ}
set_option maxHeartbeats 2000000 in
theorem w_word {hue share top : Int} (B : Base hS) (h1 : 0 ≤ share ∧ share ≤ 1000) (h2 : 0 ≤ top ∧ top ≤ 32) :
    EX prog w n W (fdScope (Mine.top 12)) ["hue", "share", "top", "word", "corner", "way"] [some (.int hue), some (.int share), some (.int top), none, none, none] st (fdBody (Mine.top 12)) (.ret (.str (S (wordF hue share top))) st) := by
  have g1 := B.min; have g2 := B.max; have g3 := B.chr
  walk_at "st0"
  refine EX.fold ["corner"] [0, 16, 32] D.int (fun (a : List Nat) c => a ++ [(chW hue share top c).toNat]) [] (fun a => [some (.int hue), some (.int share), some (.int top), some (.str (S a)), none, none])
    (fun a c => [some (.int hue), some (.int share), some (.int top), some (.str (S a)), some (.int c), none]) (fun _ => st) (fun a l => a.length + l.length = 3) ?_ ?_ rfl (by decide +kernel) ?_ ?_
  · show EVit _ _ _ _ _ _ _ _ _ [D.int 0, D.int 16, D.int 32] _
    walk_at "go"
  · exact .same (.same (.same (by rw [s_empty]; exact .same (.same (.off .nil)))))
  · intro b x post ok
    refine ⟨AS.var (.there (.there (.there (.there .here)))), ?ok, ?r, .inl ?body, ?less⟩
    case ok => simp at ok ⊢; omega
    case body =>
      have hm1 : 0 ≤ share * top := Int.mul_nonneg h1.1 h2.1
      have hm2 : share * top ≤ 1000 * 32 := Int.mul_le_mul h1.2 h2.2 h2.1 (by omega)
      walk_at "st"
      all_goals first | decide | omega | exact chW_range (hue := hue) (c := x) h1 h2 | (simp at ok ⊢; omega)
    case less => exact .same (.same (.same (.same (.off (.off .nil)))))
  · intro b hb
    subst hb
    walk_at "st"
    simp [wordF]
theorem c_word {hue share top : Int} (B : Base hS) (h1 : 0 ≤ share ∧ share ≤ 1000) (h2 : 0 ≤ top ∧ top ≤ 32) : Op hS prog w (n + 1) (Call (.ref 110)) [.int hue, .int share, .int top] (.str (S (wordF hue share top))) :=
  fun_okL 3 B.lim B.word.at_ rfl rfl (by decide +kernel) (w_word B h1 h2)
end
end
section
noncomputable def q32 (c : Nat) : UInt64 := fdivI ((c : Int) - 48) 32
noncomputable def fin3 (x : UInt64) : Bool := Float64.isFinite x && !Float64.isNaN x && !Float64.isInf x
theorem fin3_ok {x : UInt64} (h : fin3 x = true) : Float64.isFinite x = true ∧ Float64.isNaN x = false ∧ Float64.isInf x = false := by
  simpa [fin3, and_assoc] using h
noncomputable def toldX (a b c : Nat) : UInt64 × UInt64 × UInt64 := rgbF (q32 a) (q32 b) (q32 c)
noncomputable def sc1 (k : Int) (x : UInt64) : UInt64 := Float64.mul (Float64.ofInt k) x
noncomputable def rnd (x : UInt64) : Int := Flt.toInt Float64.nearestOf x
noncomputable def toldF (a b c : Nat) : List Int := let p := toldX a b c; [rnd (sc1 48000 p.1), rnd (sc1 1000 p.2.1), rnd (sc1 32000 p.2.2)]
noncomputable def toldOk (a b c : Nat) : Bool :=
  let p := toldX a b c
  !Float64.isInf (q32 a) && !Float64.isInf (q32 b) && !Float64.isInf (q32 c) && rgbOk (q32 a) (q32 b) (q32 c) && fin3 (sc1 48000 p.1) && fin3 (sc1 1000 p.2.1) && fin3 (sc1 32000 p.2.2)
section
variable {hS : Heap} {prog : Program} {w : World} {n : Nat} {W : Wd hS} {st : W.σ}
set_option maxHeartbeats 2000000 in
theorem w_told {a b c : Nat} (B : Base hS) (ok : toldOk a b c = true) :
    EX prog w (n + 1) W (fdScope (Mine.top 14)) ["word", "h", "s", "v"] [some (.str (S [a, b, c])), none, none, none] st (fdBody (Mine.top 14)) (.ret (dI (toldF a b c)) st) := by
  have g1 := B.round; have g2 := B.ord; have g3 := B.rgb.glb
  simp only [toldOk, Bool.and_eq_true, Bool.not_eq_true'] at ok
  obtain ⟨⟨⟨⟨⟨⟨k1, k2⟩, k3⟩, k4⟩, k5⟩, k6⟩, k7⟩ := ok
  refine EX.setT (ρ' := [some (.str (S [a, b, c])), some (.float (toldX a b c).1), some (.float (toldX a b c).2.1), some (.float (toldX a b c).2.2)]) (xs := ["h", "s", "v"]) (d := d3 (toldX a b c)) (st₁ := st) ?e ?as ?r
  case as => exact AS.tup ["h", "s", "v"] [_, _, _] (.cons (.there .here) (.cons (.there (.there .here)) (.cons (.there (.there (.there .here))) .nil)))
  case e =>
    refine EV.fn (ds := [.float (fdivI ((a : Int) - 48) 32), .float (fdivI ((b : Int) - 48) 32), .float (fdivI ((c : Int) - 48) 32)]) B.rgb ?a (c_rgb B k4)
    walk_at "go"
    all_goals first | exact ⟨by decide, k1⟩ | exact ⟨by decide, k2⟩ | exact ⟨by decide, k3⟩ | exact ⟨by decide, by decide, rfl⟩
  case r =>
    walk_at "st"
    all_goals first | exact fin3_ok k5 | exact fin3_ok k6 | exact fin3_ok k7 | decide +kernel | rfl
theorem c_told {a b c : Nat} (B : Base hS) (ok : toldOk a b c = true) : Op hS prog w (n + 2) (Call (.ref 122)) [.str (S [a, b, c])] (dI (toldF a b c)) :=
  fun_okL 3 B.lim B.told.at_ rfl rfl (by decide +kernel) (w_told B ok)
end
end
section
noncomputable def part3 (p : UInt64 × UInt64 × UInt64) : List UInt64 := [p.1, p.2.1, p.2.2]
noncomputable def paintC (x : UInt64) : Int := 48 + rnd (sc1 32 x)
noncomputable def paintX (hue share top : Int) : UInt64 × UInt64 × UInt64 := hsvF (fdivI hue 48000) (fdivI share 1000) (fdivI top 32000)
noncomputable def paintF (hue share top : Int) : List Nat := (part3 (paintX hue share top)).map fun x => (paintC x).toNat
noncomputable def chOk (x : UInt64) : Bool := fin3 (sc1 32 x) && decide (0 ≤ paintC x) && decide (paintC x ≤ 1114111)
noncomputable def paintOk (hue share top : Int) : Bool :=
  !Float64.isInf (fdivI hue 48000) && !Float64.isInf (fdivI share 1000) && !Float64.isInf (fdivI top 32000) && hsvOk (fdivI hue 48000) (fdivI share 1000) (fdivI top 32000) && (part3 (paintX hue share top)).all chOk
theorem dS_map {α : Type} (xs : List α) (f : α → List Nat) : D.list (xs.map fun a => D.str (S (f a))) = dS (xs.map f) := by
  show _ = D.list ((xs.map f).map fun p => D.str (S p))
  rw [List.map_map]; rfl
noncomputable def dueF (hues shares tops : List Int) : List (List Int) := (zs 0 5).map fun k => [if shares.getD k.toNat 0 > 0 then hues.getD k.toNat 0 % 48 * 1000 else 0, shares.getD k.toNat 0, tops.getD k.toNat 0 * 1000]
noncomputable abbrev dLL (l : List (List Int)) : D := .list (l.map dI)
theorem itemI {l : List Int} {k : Int} (h0 : 0 ≤ k) (h1 : k < 1000000) (h : k.toNat < l.length) : 0 ≤ k ∧ k < 2 ^ 63 ∧ (l.map D.int)[k.toNat]? = some (.int (l.getD k.toNat 0)) := by
  refine ⟨h0, by omega, ?_⟩
  simp [List.getD_eq_getElem?_getD, h]
theorem getD_all {l : List Int} {p : Int → Prop} {i : Nat} (h : ∀ x ∈ l, p x) (h0 : p 0) : p (l.getD i 0) := by
  rw [List.getD_eq_getElem?_getD]
  cases e : l[i]? with
  | none => exact h0
  | some x => exact h x (List.mem_of_getElem? e)
section
variable {hS : Heap} {prog : Program} {w : World} {n : Nat} {W : Wd hS} {st : W.σ}
set_option maxHeartbeats 2000000 in
theorem w_painted {hue share top : Int} (B : Base hS) (ok : paintOk hue share top = true) :
    EX prog w (n + 1) W (fdScope (Mine.top 16)) ["hue", "share", "top"] [some (.int hue), some (.int share), some (.int top)] st (fdBody (Mine.top 16)) (.ret (.str (S (paintF hue share top))) st) := by
  have g1 := B.round; have g2 := B.chr
  simp only [paintOk, Bool.and_eq_true, Bool.not_eq_true', List.all_eq_true] at ok
  obtain ⟨⟨⟨⟨k1, k2⟩, k3⟩, k4⟩, k5⟩ := ok
  refine aRet (d := .str (S (List.flatten ((part3 (paintX hue share top)).map fun x => [(paintC x).toNat])))) (aMeth (st₁ := st) (d0 := .str (S (Str.ofString "").cps.toList)) (ds := [dS ((part3 (paintX hue share top)).map fun x => [(paintC x).toNat])]) ?o meth_join (aS (st₁ := st) ?c .nil ⟨by intro _; rfl⟩) ?j ⟨by intro _; rfl⟩) ?e
  case o => walk_at "go"
  case c =>
    rw [← dS_map]
    refine EV.map [] (part3 (paintX hue share top)) D.float _ ?src .nil ?el (by simp [part3])
    case src =>
      show EVit _ _ _ _ _ _ _ _ _ [D.float (paintX hue share top).1, D.float (paintX hue share top).2.1, D.float (paintX hue share top).2.2] _
      refine EVit.tuple (EV.fn (ds := [.float (fdivI hue 48000), .float (fdivI share 1000), .float (fdivI top 32000)]) B.hsv ?a (c_hsv B k4))
      walk_at "go"
      all_goals first | exact ⟨by decide, k1⟩ | exact ⟨by decide, k2⟩ | exact ⟨by decide, k3⟩
    case el =>
      intro x hx
      have := k5 x hx
      simp only [chOk, Bool.and_eq_true, decide_eq_true_eq] at this
      obtain ⟨⟨f1, f2⟩, f3⟩ := this
      walk_at "go"
      all_goals first | exact fin3_ok f1 | exact oChr ⟨f2, f3⟩ | decide +kernel
  case j =>
    rw [s_empty]
    exact op_join (by simp [part3])
  case e => simp [paintF, part3]
theorem c_painted {hue share top : Int} (B : Base hS) (ok : paintOk hue share top = true) : Op hS prog w (n + 2) (Call (.ref 132)) [.int hue, .int share, .int top] (.str (S (paintF hue share top))) :=
  fun_okL 0 B.lim B.painted.at_ rfl rfl (by decide +kernel) (w_painted B ok)
set_option maxHeartbeats 2000000 in
theorem w_due {hues shares tops : List Int} (B : Base hS) (l1 : hues.length = 5) (l2 : shares.length = 5) (l3 : tops.length = 5) (hb : ∀ x ∈ tops, -1000 < x ∧ x < 1000) :
    EX prog w (n + 1) W (fdScope (Mine.top 15)) ["hues", "shares", "tops"] [some (dI hues), some (dI shares), some (dI tops)] st (fdBody (Mine.top 15)) (.ret (dLL (dueF hues shares tops)) st) := by
  have g1 := B.range
  refine aRet (EV.map ["hues", "shares", "tops"] (zs 0 5) D.int (fun k => dI [if shares.getD k.toNat 0 > 0 then hues.getD k.toNat 0 % 48 * 1000 else 0, shares.getD k.toNat 0, tops.getD k.toNat 0 * 1000]) (by walk_at "go"; decide)
    (.cons .here (.cons (.there .here) (.cons (.there (.there .here)) .nil))) ?el (by decide)) ?e
  case e => simp [dLL, dueF]
  case el =>
    intro k hk
    obtain ⟨i, hi, rfl⟩ := mem_zs hk
    have hz : (0 + (i : Int)).toNat = i := by omega
    refine EV.eq (d := .list [cond (decide (0 < shares.getD (0 + (i : Int)).toNat 0)) (.int (hues.getD (0 + (i : Int)).toNat 0 % 48 * 1000)) (.int 0), .int (shares.getD (0 + (i : Int)).toNat 0), .int (tops.getD (0 + (i : Int)).toNat 0 * 1000)]) ?_ ?_
    · have hq := getD_all (i := (0 + (i : Int)).toNat) hb ⟨by decide, by decide⟩
      walk_at "go"
      all_goals first | decide | omega | exact itemI (by omega) (by omega) (by omega)
    · by_cases h : 0 < shares.getD (0 + (i : Int)).toNat 0
      · simp only [h, decide_true, cond_true, if_true]; rfl
      · simp only [h, decide_false, cond_false, if_false]; rfl
theorem c_due {hues shares tops : List Int} (B : Base hS) (l1 : hues.length = 5) (l2 : shares.length = 5) (l3 : tops.length = 5) (hb : ∀ x ∈ tops, -1000 < x ∧ x < 1000) :
    Op hS prog w (n + 2) (Call (.ref 127)) [dI hues, dI shares, dI tops] (dLL (dueF hues shares tops)) :=
  fun_okL 0 B.lim B.due.at_ rfl rfl (by decide +kernel) (w_due B l1 l2 l3 hb)
end
end
section
theorem Less.eqv {o o' a b} (e : o = o') (h : Less a b) : Less (o :: a) (o' :: b) := e ▸ .same h
theorem s_bs : (Str.ofString "\\").cps.toList = [92] := by decide +kernel
theorem s_q : (Str.ofString "\"").cps.toList = [34] := by decide +kernel
theorem s_sp : (Str.ofString " ").cps.toList = [32] := by decide +kernel
theorem s_trn : (Str.ofString "\t\r\n").cps.toList = [9, 13, 10] := by decide +kernel
theorem s_rst : (Str.ofString "\r \t").cps.toList = [13, 32, 9] := by decide +kernel
theorem s_n : (Str.ofString "\n").cps.toList = [10] := by decide +kernel
noncomputable def escF (p : List Nat) : List Nat := (p.map fun c => [92, c]).flatten
noncomputable def quoF (p : List Nat) : List Nat := [34] ++ [p.getD 0 0] ++ (escF p).drop 2 ++ [34]
noncomputable def pickT (p : List Nat) (k : Nat) : List Nat := [p ++ [32], quoF p, p ++ [9, 13, 10], escF p ++ [13, 32, 9], escF p ++ [10]].getD k []
noncomputable def textF (ws : List (List Nat)) : List Nat := (zs 0 5).foldl (fun a k => a ++ pickT (ws.getD k.toNat []) k.toNat) []
theorem len_esc (p : List Nat) : (escF p).length = 2 * p.length := by
  unfold escF
  induction p with
  | nil => rfl
  | cons c p ih => simp at ih ⊢; omega
theorem len_pick {p : List Nat} (h : p.length = 3) (k : Nat) : (pickT p k).length ≤ 20 := by
  have := len_esc p
  match k with
  | 0 => simp [pickT, h]
  | 1 => simp [pickT, quoF]; omega
  | 2 => simp [pickT, h]
  | 3 => simp [pickT]; omega
  | 4 => simp [pickT]; omega
  | k + 5 => simp [pickT]
section
variable {hS : Heap} {prog : Program} {w : World} {n : Nat} {W : Wd hS} {st : W.σ}
set_option maxHeartbeats 4000000 in
theorem w_text {ws : List (List Nat)} (B : Base hS) (hl : ws.length = 5) (hw : ∀ p ∈ ws, p.length = 3) :
    EX prog w (n + 1) W (fdScope (Mine.top 13)) ["words", "text", "k", "escaped", "quoted"] [some (dS ws), none, none, none, none] st (fdBody (Mine.top 13)) (.ret (.str (S (textF ws))) st) := by
  have g1 := B.range
  walk_at "st0"
  refine EX.fold ["k"] (zs 0 5) D.int (fun (a : List Nat) k => a ++ pickT (ws.getD k.toNat []) k.toNat) [] (fun a => [some (dS ws), some (.str (S a)), none, none, none])
    (fun a k => [some (dS ws), some (.str (S a)), some (.int k), none, none]) (fun _ => st) (fun a l => a.length + 20 * l.length ≤ 100 ∧ ∀ k ∈ l, 0 ≤ k ∧ k < 5) ?src ?le ⟨by decide, by decide⟩ (by decide +kernel) ?turn ?fin
  case src => walk_at "go"; decide
  case le => exact .same (.eqv (by rw [s_empty]) (.off (.off (.off .nil))))
  case fin =>
    intro b hb
    subst hb
    walk_at "st"
    simp [textF]
  case turn =>
    intro b x post ok
    obtain ⟨ok1, ok2⟩ := ok
    obtain ⟨hx0, hx5⟩ := ok2 x (by simp)
    have hlt : x.toNat < ws.length := by omega
    have hp : (ws.getD x.toNat []).length = 3 := by
      rw [List.getD_eq_getElem?_getD, List.getElem?_eq_getElem hlt]
      exact hw _ (List.getElem_mem hlt)
    have hit : 0 ≤ x ∧ x < 2 ^ 63 ∧ (ws.map fun p => D.str (S p))[x.toNat]? = some (.str (S (ws.getD x.toNat []))) := ⟨hx0, by omega, by simp [List.getD_eq_getElem?_getD, hlt]⟩
    have hpick := len_pick hp x.toNat
    refine ⟨AS.var (.there (.there .here)), ⟨by simp only [List.length_append, List.length_cons] at ok1 ⊢; omega, fun k hk => ok2 k (by simp [hk])⟩, [some (dS ws), some (.str (S (b ++ pickT (ws.getD x.toNat []) x.toNat))), some (.int x), some (.str (S (escF (ws.getD x.toNat [])))), some (.str (S (quoF (ws.getD x.toNat []))))], .inl ?body, .same (.same (.off (.off (.off .nil))))⟩
    generalize ws.getD x.toNat [] = p at hp hit hpick ⊢
    have hesc := len_esc p
    have hc0 : 0 ≤ (0 : Int) ∧ (0 : Int) < 2 ^ 63 ∧ p[(0 : Int).toNat]? = some (p.getD 0 0) := ⟨by decide, by decide, by
      have : (0 : Int).toNat < p.length := by omega
      rw [List.getD_eq_getElem?_getD]; simp at this ⊢; simp [this]⟩
    refine aSet (st₁ := st) (d := .str (S (escF p))) (aMeth (st₁ := st) (d0 := .str (S [])) (ds := [dS (p.map fun c => [92, c])]) (.eq (by walk_at "go") (by rw [s_empty])) meth_join (aS (st₁ := st) ?esc .nil ⟨by intro _; rfl⟩) (op_join ?sz) ⟨by intro _; rfl⟩) (.there (.there (.there .here))) ?more ⟨by decide +kernel⟩ ⟨by intro _ _; rfl⟩
    case sz => 
      have : ((p.map fun c => [92, c]).map (·.length)).sum = (escF p).length := by unfold escF; rw [List.length_flatten]
      rw [this]; simp; omega
    case esc =>
      rw [← dS_map]
      refine EV.map [] p (fun c => .str (S [c])) _ (EVit.str (aItem (st₁ := st) (by walk_at "go") (by walk_at "go") (oLitem hit ⟨by intro _ _; rfl⟩))) .nil ?_ (by omega)
      intro c hc
      refine .eq (d := .str (S ((Str.ofString "\\").cps.toList ++ [c]))) (by walk_at "go"; rw [s_bs]; simp) (by rw [s_bs]; rfl)
    case more =>
      have lq : (quoF p).length ≤ 20 := by simp [quoF]; omega
      refine aSet (st₁ := st) (d := .str (S (quoF p))) ?quo (.there (.there (.there (.there .here)))) ?last ⟨by decide +kernel⟩ ⟨by intro _ _; rfl⟩
      case quo =>
        refine .eq (d := .str (S ((Str.ofString "\"").cps.toList ++ [p.getD 0 0] ++ (escF p).drop (2 : Int).toNat ++ (Str.ofString "\"").cps.toList))) ?_ (by rw [s_q]; rfl)
        walk_at "go"
        all_goals (try rw [s_q])
        all_goals (try simp)
        all_goals (try omega)
      case last =>
        have hx : x = 0 ∨ x = 1 ∨ x = 2 ∨ x = 3 ∨ x = 4 := by omega
        simp only [List.length_cons] at ok1
        rcases hx with rfl | rfl | rfl | rfl | rfl
        all_goals
          walk_at "st"
          all_goals (try simp only [s_sp, s_trn, s_rst, s_n])
          all_goals first | exact EX.nil | ((try simp only [List.length_append, List.length_cons, List.length_nil]); omega)
theorem c_text {ws : List (List Nat)} (B : Base hS) (hl : ws.length = 5) (hw : ∀ p ∈ ws, p.length = 3) : Op hS prog w (n + 2) (Call (.ref 115)) [dS ws] (.str (S (textF ws))) :=
  fun_okL 4 B.lim B.text.at_ rfl rfl (by decide +kernel) (w_text B hl hw)
end
end
section
noncomputable def changedF (ring : List Int) (k : Int) : List Int := (ring.set k.toNat (ring.getD ((k + 1) % 5).toNat 0)).set ((k + 1) % 5).toNat (ring.getD k.toNat 0)
section
variable {hS : Heap} {prog : Program} {w : World} {n : Nat} {W : Wd hS} {st : W.σ}
theorem all_flat_ints : ∀ l : List Int, (l.map D.int).all isFlat = true
  | [] => rfl
  | x :: l => by rw [List.map_cons, List.all_cons, all_flat_ints l]; rfl
set_option maxHeartbeats 2000000 in
theorem w_changed {ring : List Int} {k : Int} (B : Base hS) (hl : ring.length = 5) (hk : 0 ≤ k ∧ k < 5) :
    EX prog w n W (fdScope (Mine.top 19)) ["ring", "k", "other"] [some (dI ring), some (.int k), none] st (fdBody (Mine.top 19)) (.ret (dI (changedF ring k)) st) := by
  have i1 := itemI (l := ring) (k := k) hk.1 (by omega) (by omega)
  have i2 := itemI (l := ring) (k := (k + 1) % 5) (by omega) (by omega) (by omega)
  refine EX.own (st₁ := st) (ds := ring.map D.int) (fun a => [some (dI ring), some (.int k), some (.raw (.ref a))]) (EVn.listOf B (by walk_at "go") (all_flat_ints _) (by simp [hl])) (fun a => .there (.there .here)) (fun a h1 h2 => ⟨_, ?_, .own⟩)
  refine EX.setOwn (st := st) (st'' := (st, ring.map D.int)) (l := ring.map D.int) (l' := (ring.set k.toNat (ring.getD ((k + 1) % 5).toNat 0)).map D.int) (k := k) (d := .int (ring.getD ((k + 1) % 5).toNat 0)) ?v1 ?o1 ?i1 ⟨hk.1, by omega, by simp [hl]; omega⟩ rfl (by simp [List.map_set]) ?more
  case v1 =>
    walk_at "go"
    all_goals decide
  case o1 => exact aN (.there (.there .here)) ⟨by decide +kernel⟩
  case i1 => exact aN (.there .here) ⟨by decide +kernel⟩
  case more =>
    refine EX.setOwn (st := st) (st'' := (st, (ring.set k.toNat (ring.getD ((k + 1) % 5).toNat 0)).map D.int)) (l := (ring.set k.toNat (ring.getD ((k + 1) % 5).toNat 0)).map D.int) (l' := (changedF ring k).map D.int) (k := (k + 1) % 5) (d := .int (ring.getD k.toNat 0)) ?v2 ?o2 ?i2 ⟨by omega, by omega, by simp [hl]; omega⟩ rfl (by simp [changedF, List.map_set]) ?more2
    case v2 => walk_at "go"
    case o2 => exact aN (.there (.there .here)) ⟨by decide +kernel⟩
    case i2 => walk_at "go"; decide
    case more2 =>
      refine aRet (aN (.there (.there .here)) ⟨by decide +kernel⟩) rfl
theorem c_changed {ring : List Int} {k : Int} (B : Base hS) (hl : ring.length = 5) (hk : 0 ≤ k ∧ k < 5) : Op hS prog w (n + 1) (Call (.ref 151)) [dI ring, .int k] (dI (changedF ring k)) :=
  fun_okL 1 B.lim B.changed.at_ rfl rfl (by decide +kernel) (w_changed B hl hk)
end
end
section
structure GI (hS : Heap) (env : Env) (p : List Nat) (e it : Addr) (t : Tok) (i : Nat) (esc : Bool) (s : Shared) : Prop where
  stand : Stand (Wd.still hS) Nowhere env gv [some (.str (S p)), some (.int (lastP i)), some (.bool esc), none] () s
  en : ∃ old, IsEnum s.heap e it i old
  dr : s.heap.IsStrIter it (strIterType (S p)) (S p) t i
/-- what the generator may have changed -/
noncomputable abbrev G3 (L e it : Addr) : Addr → Prop := fun b => b = L ∨ b = e ∨ b = it
noncomputable abbrev GMv (L e it : Addr) (s₀ s : Shared) : Prop := Ext (G3 L e it) s₀ s
/-- what the others leave as it is -/
structure GKp (hS : Heap) (L e it : Addr) (s s' : Shared) : Prop where
  own : ∀ b o, b = L ∨ b = e ∨ b = it → s.heap.get? b = some o → s'.heap.get? b = some o
  stat : ∀ b o, hS.get? b = some o → s'.heap.get? b = some o

section
variable {hS : Heap} {prog : Program} {w : World} {n : Nat}
theorem still_keep {env : Env} {s s' : Shared} {ρ : List (Option D)} {vars : List Str} (I : Stand (Wd.still hS) Nowhere env vars ρ () s) (hc : env.cells = []) (hf : ∀ d, some d ∈ ρ → isFlat d = true)
    (k : ∀ o, s.heap.get? env.locals = some o → s'.heap.get? env.locals = some o) (st : ∀ b o, hS.get? b = some o → s'.heap.get? b = some o) : Stand (Wd.still hS) Nowhere env vars ρ () s' :=
  ⟨st, fun _ m => m.elim, fun _ u => u.elim, trivial, (let ⟨m, h⟩ := I.ns; ⟨m, h.at' k⟩), I.locals, I.localsS, I.cells, I.cellsS, (fun x c h => by rw [hc] at h; cases h), I.inj, fun i x d h1 h2 => by
    obtain ⟨v, hv, hr⟩ := I.sto i x d h1 h2
    exact ⟨v, hv.at k (fun c h => by rw [hc] at h; cases h), (hr.toFlat (h' := s.heap) (hf d (List.mem_of_getElem? h2))).flat⟩⟩
theorem GI.keep {env : Env} {p : List Nat} {e it : Addr} {t : Tok} {i : Nat} {esc : Bool} {s s' : Shared} (g : GI hS env p e it t i esc s) (hc : env.cells = []) (k : GKp hS env.locals e it s s') : GI hS env p e it t i esc s' :=
  ⟨still_keep g.stand hc (by intro d hd; simp at hd; rcases hd with rfl | rfl | rfl <;> rfl) (fun o h => k.own _ o (.inl rfl) h) k.stat, (let ⟨old, h⟩ := g.en; ⟨old, k.own _ _ (.inr (.inl rfl)) h⟩), (let ⟨o, h, r⟩ := g.dr; ⟨o, k.own _ _ (.inr (.inr rfl)) h, r⟩)⟩
theorem drawsS {A : Around} (hh : A.handled = none) (it : Addr) (p : List Nat) (t : Tok) : Draws prog w A it [it] p.length (fun i v => ∃ c u, (S p).cps[i]? = some c ∧ v = .str ⟨#[c]⟩ u) (fun i h => h.IsStrIter it (strIterType (S p)) (S p) t i) := by
  have e : p.length = (S p).cps.size := by simp [S]
  rw [e]
  unfold strIterType
  split
  · exact Draws.strAscii hh it _ t
  · exact Draws.strWide hh it _ t
end
end
section
noncomputable def forT : Stmt → Expr
  | .For t _ _ _ _ => t
  | _ => .Constant .none 0 default
noncomputable def forB : Stmt → List Stmt
  | .For _ _ b _ _ => b
  | _ => []
noncomputable abbrev gT : Expr := forT (nthS bG 2)
noncomputable abbrev gB : List Stmt := forB (nthS bG 2)
noncomputable abbrev gIf : Stmt := nthS bG 3
noncomputable def Alive3 (L e it : Addr) (s : Shared) : Prop := ∀ b, b = L ∨ b = e ∨ b = it → ∃ o, s.heap.get? b = some o
noncomputable def GR (L e it : Addr) : GenEnd := fun n s₀ r s₁ => r = .ok (.ret .none) ∧ (fun n a b => n = 0 ∧ GMv L e it a b) n s₀ s₁
noncomputable def GY (hS : Heap) (L e it : Addr) (out : List (Int × List Nat)) : Protocol := fun m s₀ v s' kap => ∃ x T vs, out[out.length - 1 - m]? = some x ∧ v = .ref T ∧ s₀.heap.get? T = none ∧ (∀ b, b = L ∨ b = e ∨ b = it → T ≠ b) ∧ s'.heap.IsTuple T vs.toArray ∧ Reps Flat s'.heap vs (tD x) ∧ GMv L e it s₀ s' ∧
  Alive3 L e it s' ∧ (∀ b o, hS.get? b = some o → s'.heap.get? b = some o) ∧ ∀ s'', GKp hS L e it s' s'' → kap (.send .none) s''

section
variable {hS : Heap} {prog : Program} {w : World} {m n : Nat} {A : Around} {env : Env} {e it : Addr} {out : List (Int × List Nat)} {s₀ s : Shared} {c : Code} {fs : List Frame}
  {K : Flow → Sem Fin} {H : Value → Sem Fin} {gd : Bool → Bool} {lv : List Value → List Value} {ρ : List (Option D)}
theorem seg_yielding {ex : Expr} {yp pos : Pos} {x : Int × List Nat} (hfs : splitAtGen fs = none) (hgd : gd false = false) (hfg : fs.any Frame.guarded = false) (r : Room (A.over c fs) m) (ft : Fits sG env)
    (I : Stand (Wd.still hS) Nowhere env gv ρ () s) (hf : ∀ d, some d ∈ ρ → isFlat d = true) (hev : ∀ {W : Wd hS} {st : W.σ}, EV prog w m W sG gv ρ st ex (.tuple (tD x)) st) (hx : out[out.length - 1 - n]? = some x) (al : Alive3 env.locals e it s) (gm : GMv env.locals e it s₀ s)
    (next : ∀ s'', GKp hS env.locals e it s s'' → Seg (model prog w) A (GR env.locals e it) (GY hS env.locals e it out) n s'' c (K .next) fs s'') :
    Seg (model prog w) A (GR env.locals e it) (GY hS env.locals e it out) (n + 1) s₀ c ((exec (.Expr (.Yield (some ex) yp) pos) env).wrap K H gd lv) fs s := by
  have hi : interactive env = false := by unfold interactive; rw [ft.scope, ft.kind]; rfl
  refine seg_Expr_Yield hfs hgd hfg ?_ (by rw [ft.scope]; rfl) hi
  have low : ∀ a, (fun a => ∃ o, s.heap.get? a = some o) a → ∃ o, s.heap.get? a = some o := fun _ h => h
  refine wpAny_mono (hev (W := Wd.still hS) (st := ()) (A.over c fs) env (fun a => ∃ o, s.heap.get? a = some o) s r ft (I.reU hf low)) (fun v s' z kap hk => ?_) fun _ _ f => f.elim
  obtain ⟨x1, _, r1⟩ := z
  obtain ⟨T, vs, rfl, hT, htup, hr⟩ := r1.of_tuple
  have hTn : s.heap.get? T = none := by
    cases q : s.heap.get? T with
    | none => rfl
    | some o => exact absurd ⟨o, q⟩ hT
  have hT3 : ∀ b, b = env.locals ∨ b = e ∨ b = it → T ≠ b := fun b hb q => hT (q ▸ al b hb)
  have gm' : GMv env.locals e it s₀ s' := gm.trans x1.any
  refine ⟨x, T, vs, hx, rfl, ?_, hT3, htup, hr.toFlat rfl, gm', fun b hb => let ⟨o, q⟩ := al b hb; ⟨o, x1.keep b o id q⟩, fun b o q => x1.keep b o id (I.static b o q), fun s'' kp => hk .none s'' ?_⟩
  · cases q : s₀.heap.get? T with
    | none => rfl
    | some o => have := gm.keep T o (fun hb => hT3 T hb rfl) q; rw [hTn] at this; cases this
  · exact next s'' ⟨fun b o hb q => kp.own b o hb (x1.keep b o id q), kp.stat⟩
end
end
section
noncomputable def ifT : Stmt → Expr
  | .If t _ _ _ => t
  | _ => .Constant .none 0 default
noncomputable def exPos : Expr → Pos
  | .Name _ p => p
  | _ => default
section
variable {hS : Heap} {prog : Program} {w : World} {m n : Nat} {A : Around} {env : Env} {e it : Addr} {out : List (Int × List Nat)} {s₀ s : Shared} {c : Code} {fs : List Frame}
  {K : Flow → Sem Fin} {H : Value → Sem Fin} {gd : Bool → Bool} {lv : List Value → List Value} {ρ ρ' : List (Option D)}
/-- a plain assignment in a generator -/
theorem seg_set {R : GenEnd} {Y : Protocol} {x : Str} {ex : Expr} {p pos : Pos} {d : D} (r : Room (A.over c fs) m) (ft : Fits sG env) (hc : env.cells = []) (hk : Stored env x)
    (I : Stand (Wd.still hS) Nowhere env gv ρ () s) (hev : EV prog w m (Wd.still hS) sG gv ρ () ex d ()) (hp : Put gv ρ x d ρ')
    (hsw : swapsWith ex (some (.Name x p)) pos.line env = pure false)
    (next : ∀ s', Ext (fun b => b = env.locals) s s' → Stand (Wd.still hS) Nowhere env gv ρ' () s' → Seg (model prog w) A R Y n s₀ c (K .next) fs s') :
    Seg (model prog w) A R Y n s₀ c ((exec (.Assign [.Name x p] ex pos) env).wrap K H gd lv) fs s := by
  obtain ⟨i, h1, rfl⟩ := hp.idx
  refine seg_wrap (wpAny_Assign_Name (wpAny_mono (hev _ env _ s r ft I) (fun v s1 q1 => ?_) fun _ _ f => f.elim) hsw)
  have I1 := I.step q1.1 q1.2.1
  refine wpAny_mono (I1.store ft (by decide +kernel) h1 hk q1.2.2) (fun _ s2 q2 => ?_) fun _ _ f => f.elim
  refine next s2 (((q1.1.mono fun _ f => f.elim)).trans (q2.1.mono ?_)) q2.2
  rintro b (rfl | ⟨y, _, h⟩)
  · rfl
  · rw [hc] at h; cases h
theorem Stand.fewer {env : Env} (I : Stand (Wd.still hS) Nowhere env gv ρ () s) (h : Less ρ' ρ) : Stand (Wd.still hS) Nowhere env gv ρ' () s := I.forget h.spec

noncomputable abbrev Kf : Flow → Sem Fin := fun f => .pure (.done (.ret (match f with | .ret v => v | _ => .none)))
noncomputable abbrev Hf (env : Env) : Value → Sem Fin := fun e => (leaving env e).wrap (fun _ => .raise e) .raise id id
noncomputable abbrev K0 (env : Env) : Flow → Sem Fin := fun f => match f with | .next => (execs [gIf] env).wrap Kf (Hf env) id id | f => Kf f

structure GC (hS : Heap) (env : Env) (e it : Addr) : Prop where
  ft : Fits sG env
  cells : env.cells = []
  sts : ∀ x ∈ gv, Stored env x
  le : env.locals ≠ e
  lit : env.locals ≠ it
  eit : e ≠ it
  se : hS.get? e = none
  sit : hS.get? it = none

theorem GI.alive {p : List Nat} {t : Tok} {i : Nat} {esc : Bool} (g : GI hS env p e it t i esc s) : Alive3 env.locals e it s := by
  rintro b (rfl | rfl | rfl)
  · obtain ⟨m, o, _, _, h, _⟩ := g.stand.ns; exact ⟨o, h⟩
  · obtain ⟨old, h⟩ := g.en
    exact ⟨_, h⟩
  · obtain ⟨o, h, _⟩ := g.dr; exact ⟨o, h⟩
end
section
variable {hS : Heap} {prog : Program} {w : World} {m n : Nat} {A : Around} {env : Env} {e it : Addr} {out : List (Int × List Nat)} {s₀ s : Shared} {c : Code} {fs : List Frame}
  {K : Flow → Sem Fin} {H : Value → Sem Fin} {gd : Bool → Bool} {lv : List Value → List Value} {ρ ρ' : List (Option D)}
theorem goE_out {x : Int × List Nat} {r : List (Int × List Nat)} (h : out.drop (out.length - (x :: r).length) = x :: r) (hl : (x :: r).length ≤ out.length) : out[out.length - 1 - r.length]? = some x ∧ out.drop (out.length - r.length) = r ∧ r.length ≤ out.length := by
  simp only [List.length_cons] at h hl
  have e1 : out.length - (r.length + 1) = out.length - 1 - r.length := by omega
  have e2 : out.length - r.length = (out.length - (r.length + 1)) + 1 := by omega
  refine ⟨?_, ?_, by omega⟩
  · rw [← e1]
    have := congrArg (fun l : List (Int × List Nat) => l[0]?) h
    simpa using this
  · rw [e2, ← List.drop_drop, h]; rfl
end
end
section
/-- is an escape open at the end -/
noncomputable def goEnd : Bool → List Nat → Bool
  | e, [] => e
  | true, _ :: r => goEnd false r
  | false, c :: r => goEnd (c == 92) r
section
variable {hS : Heap} {prog : Program} {w : World} {m n : Nat} {A : Around} {env : Env} {e it : Addr} {out : List (Int × List Nat)} {s₀ s : Shared} {c : Code} {fs : List Frame}
  {K : Flow → Sem Fin} {H : Value → Sem Fin} {gd : Bool → Bool} {lv : List Value → List Value} {ρ ρ' : List (Option D)}

noncomputable abbrev gC (e : Addr) (env : Env) : Code := .forLoop gT (.ref e) gB [] env
noncomputable abbrev gF (env : Env) (pp : Pos) : Frame := loopFrame (K0 env) (Hf env) id id env (.func bG env) pp
theorem gen_endF {p : List Nat} {i : Nat} (C : GC hS env e it) (rm : Room (A.over (.func bG env) []) m)
    (I : Stand (Wd.still hS) Nowhere env gv [some (.str (S p)), some (.int (lastP i)), some (.bool false), none] () s) (gm : GMv env.locals e it s₀ s) :
    Seg (model prog w) A (GR env.locals e it) (GY hS env.locals e it out) 0 s₀ (.func bG env) ((execs [gIf] env).wrap Kf (Hf env) id id) [] s := by
  refine seg_execs_cons (seg_If ?_)
  have ht : ET prog w m (Wd.still hS) sG gv [some (.str (S p)), some (.int (lastP i)), some (.bool false), none] () (.Name "escape" (exPos (ifT gIf))) false () := ET.of (EV.var (.there (.there .here))) (truth_bool false)
  refine wpAny_mono (ht _ env Nowhere s rm C.ft I) (fun b s1 q => ?_) fun _ _ f => f.elim
  obtain ⟨x1, _, rfl⟩ := q
  exact seg_end (.ok (.ret .none)) ⟨rfl, rfl, gm.trans (x1.mono fun _ f => f.elim)⟩

noncomputable abbrev IH (hS : Heap) (prog : Program) (w : World) (A : Around) (env : Env) (e it : Addr) (out : List (Int × List Nat)) (pp : Pos) (p : List Nat) (t : Tok) (r : List Nat) : Prop :=
  ∀ (i : Nat) (esc : Bool) (s₀ s : Shared), p.drop i = r → i + r.length = p.length → goEnd esc r = false → GI hS env p e it t i esc s → GMv env.locals e it s₀ s →
      out.drop (out.length - (goE i esc r).length) = goE i esc r → (goE i esc r).length ≤ out.length →
      Seg (model prog w) A (GR env.locals e it) (GY hS env.locals e it out) (goE i esc r).length s₀ (gC e env) ((model prog w).den (gC e env)) [gF env pp] s
theorem gen_nil (pp : Pos) {p : List Nat} {t : Tok} (C : GC hS env e it) (rf : Room (A.over (.func bG env) []) m) (rm : Room (A.over (gC e env) [gF env pp]) (m + 1)) : IH hS prog w A env e it out pp p t [] := by
  intro i esc s₀ s hd hlen hi g gm ho hl
  have hin : i = p.length := by simpa using hlen
  obtain ⟨old, he⟩ := g.en
  refine seg_forLoop (wpAny_pyNext_enum_endD (drawsS (rm.in1 (n := m)).handled it p t) he (by rw [← hin]; exact g.dr) fun h' hb => ?_)
  have keep : ∀ b o, b ≠ it → s.heap.get? b = some o → h'.get? b = some o := hb
  have x1 : Ext (G3 env.locals e it) s { s with heap := h' } := ⟨fun b o nb q => keep b o (fun q => nb (.inr (.inr q))) q, rfl, Nat.le_refl _, fun _ _ => rfl, fun b => b⟩
  have he : esc = false := hi
  subst he
  refine seg_again rfl (seg_block_nil fun c => seg_leave .next ?_)
  refine gen_endF C rf (still_keep g.stand C.cells (by intro d hd; simp at hd; rcases hd with rfl | rfl | rfl <;> rfl) (fun o q => keep _ o C.lit q) fun b o q => keep b o (fun q' => ?_) (g.stand.static b o q)) (gm.trans x1)
  subst q'; rw [C.sit] at q; cases q
/-- a turn: the place ahead of the body -/
theorem gen_draw (pp : Pos) {p : List Nat} {t : Tok} {ch i : Nat} {esc : Bool} (C : GC hS env e it) (rm : Room (A.over (gC e env) [gF env pp]) (m + 1)) (hch : p[i]? = some ch)
    (g : GI hS env p e it t i esc s)
    (next : ∀ s', GMv env.locals e it s s' → Stand (Wd.still hS) Nowhere env gv [some (.str (S p)), some (.int i), some (.bool esc), some (.str (S [ch]))] () s' → (∃ old, IsEnum s'.heap e it (i + 1 : Nat) old) → s'.heap.IsStrIter it (strIterType (S p)) (S p) t (i + 1) →
      Seg (model prog w) A (GR env.locals e it) (GY hS env.locals e it out) n s₀ (gC e env) ((execs gB env).wrap (turnK gT (.ref e) gB [] env) (turnH env) id id) [gF env pp] s') :
    Seg (model prog w) A (GR env.locals e it) (GY hS env.locals e it out) n s₀ (gC e env) ((model prog w).den (gC e env)) [gF env pp] s := by
  have hlt : i < p.length := (List.getElem?_eq_some_iff.mp hch).1
  obtain ⟨old, he⟩ := g.en
  refine seg_forLoop (wpAny_pyNext_enum_itemD (drawsS (rm.in1 (n := m)).handled it p t) he g.dr hlt C.eit (by simp [C.eit]) fun x h1 tk hP hen1 hdr1 htup1 hsz1 keep1 => ?_)
  obtain ⟨c0, u, hc0, rfl⟩ := hP
  have hcc : c0 = ch := by have : p[i]? = some c0 := by simpa [S] using hc0
                           rw [hch] at this; exact (Option.some.inj this).symm
  subst hcc
  refine wpAny_letOwnedTupleGo_enum hen1 fun h2 hen2 hsb => ?_
  have keep2 : ∀ b o, b ≠ e → b ≠ it → s.heap.get? b = some o → h2.get? b = some o := fun b o n1 n2 q => by rw [hsb.2 b n1]; exact keep1 b o n1 n2 q
  have st2 : ∀ b o, hS.get? b = some o → h2.get? b = some o := fun b o q => keep2 b o (fun z => by rw [z, C.se] at q; cases q) (fun z => by rw [z, C.sit] at q; cases q) (g.stand.static b o q)
  have I2 : Stand (Wd.still hS) Nowhere env gv [some (.str (S p)), some (.int (lastP i)), some (.bool esc), none] () { s with heap := h2, toks := tk + 1 } := 
    still_keep g.stand C.cells (by intro d hd; simp at hd; rcases hd with rfl | rfl | rfl <;> rfl) (fun o q => keep2 _ o C.le C.lit q) st2
  have hTe : s.heap.objs.size ≠ e := fun z => by rw [z] at hen1 htup1; rw [hen1] at htup1; exact absurd (congrArg Obj.cls (Option.some.inj htup1)) (by intro q; injection q with q; exact absurd q (by decide))
  have htup2 : h2.IsTuple s.heap.objs.size [Value.int (↑i) tk, Value.str ⟨#[c0]⟩ u].toArray := ⟨_, by rw [hsb.2 _ hTe]; exact htup1, rfl, _, rfl⟩
  have hrep : Rep Nowhere h2 (.ref s.heap.objs.size) (.tuple [.int i, .str (S [c0])]) := .tuple _ _ _ id htup2 (.cons (.int _ _) (.cons (.str _ _) .nil))
  have hAS : AS prog w (Wd.still hS) sG gv ["pos", "ch"] gT (.tuple [.int i, .str (S [c0])]) [some (.str (S p)), some (.int (lastP i)), some (.bool esc), none] [some (.str (S p)), some (.int i), some (.bool esc), some (.str (S [c0]))] :=
    AS.tup ["pos", "ch"] [_, _] (.cons (.there .here) (.cons (.there (.there (.there .here))) .nil))
  refine wpAny_mono (hAS rm.handled C.ft I2 (fun y hy => C.sts y (by simp at hy; rcases hy with rfl | rfl <;> simp)) hrep) (fun _ s3 q3 => ?_) fun _ _ f => f
  obtain ⟨x3, I3⟩ := q3
  have x3' : Ext (fun b => b = env.locals) { s with heap := h2, toks := tk + 1 } s3 := x3.mono (by
    rintro b (rfl | ⟨y, _, h⟩)
    · rfl
    · rw [C.cells] at h; cases h)
  have x2 : Ext (G3 env.locals e it) s { s with heap := h2, toks := tk + 1 } := ⟨fun b o nb q => keep2 b o (fun z => nb (.inr (.inl z))) (fun z => nb (.inr (.inr z))) q, rfl, Nat.le_refl _, fun _ _ => rfl, fun b => b⟩
  refine next s3 (x2.trans (x3'.mono fun b hb => .inl hb)) I3 ⟨.str ⟨#[c0]⟩ u, ?_⟩ ?_
  · exact x3'.keep e _ (fun z => C.le z.symm) hen2
  · obtain ⟨o, ho, hr⟩ := hdr1
    exact ⟨o, x3'.keep it o (fun z => C.lit z.symm) (by rw [hsb.2 it (fun z => C.eit z.symm)]; exact ho), hr⟩
end
end
section
noncomputable def ifE : Stmt → List Stmt
  | .If _ _ e _ => e
  | _ => []
section
variable {hS : Heap} {prog : Program} {w : World} {m n : Nat} {A : Around} {env : Env} {e it : Addr} {out : List (Int × List Nat)} {s₀ s : Shared} {c : Code} {fs : List Frame}
  {K : Flow → Sem Fin} {H : Value → Sem Fin} {gd : Bool → Bool} {lv : List Value → List Value} {ρ ρ' : List (Option D)}

/-- what stands behind a turn -/
structure GT (hS : Heap) (env : Env) (p : List Nat) (e it : Addr) (t : Tok) (i : Nat) (esc : Bool) (ch : Nat) (s : Shared) : Prop where
  stand : Stand (Wd.still hS) Nowhere env gv [some (.str (S p)), some (.int i), some (.bool esc), some (.str (S [ch]))] () s
  en : ∃ old, IsEnum s.heap e it (i + 1 : Nat) old
  dr : s.heap.IsStrIter it (strIterType (S p)) (S p) t (i + 1)
theorem GT.alive {p : List Nat} {t : Tok} {i ch : Nat} {esc : Bool} (g : GT hS env p e it t i esc ch s) : Alive3 env.locals e it s := by
  rintro b (rfl | rfl | rfl)
  · obtain ⟨m, o, _, _, h, _⟩ := g.stand.ns; exact ⟨o, h⟩
  · obtain ⟨old, h⟩ := g.en
    exact ⟨_, h⟩
  · obtain ⟨o, h, _⟩ := g.dr; exact ⟨o, h⟩
theorem GT.keep {p : List Nat} {t : Tok} {i ch : Nat} {esc : Bool} {s' : Shared} (g : GT hS env p e it t i esc ch s) (hc : env.cells = []) (k : GKp hS env.locals e it s s') : GT hS env p e it t i esc ch s' :=
  ⟨still_keep g.stand hc (by intro d hd; simp at hd; rcases hd with rfl | rfl | rfl | rfl <;> rfl) (fun o h => k.own _ o (.inl rfl) h) k.stat, (let ⟨old, h⟩ := g.en; ⟨old, k.own _ _ (.inr (.inl rfl)) h⟩), (let ⟨o, h, r⟩ := g.dr; ⟨o, k.own _ _ (.inr (.inr rfl)) h, r⟩)⟩
theorem GT.set {p : List Nat} {t : Tok} {i ch : Nat} {esc esc' : Bool} {s' : Shared} (g : GT hS env p e it t i esc ch s) (C : GC hS env e it) (x : Ext (fun b => b = env.locals) s s')
    (I : Stand (Wd.still hS) Nowhere env gv [some (.str (S p)), some (.int i), some (.bool esc'), some (.str (S [ch]))] () s') : GT hS env p e it t i esc' ch s' :=
  ⟨I, (let ⟨old, h⟩ := g.en; ⟨old, x.keep _ _ (fun z => C.le z.symm) h⟩), (let ⟨o, h, r⟩ := g.dr; ⟨o, x.keep _ _ (fun z => C.lit z.symm) h, r⟩)⟩
theorem GT.gi {p : List Nat} {t : Tok} {i ch : Nat} {esc : Bool} (g : GT hS env p e it t i esc ch s) : GI hS env p e it t (i + 1) esc s :=
  ⟨g.stand.fewer (by
    have : lastP (i + 1) = (i : Int) := by simp [lastP]
    rw [this]
    exact .same (.same (.same (.off .nil)))), g.en, g.dr⟩
theorem gen_cons (pp : Pos) {p : List Nat} {t : Tok} {ch : Nat} {r : List Nat} (C : GC hS env e it) (rm : Room (A.over (gC e env) [gF env pp]) (m + 1))
    (ih : IH hS prog w A env e it out pp p t r) : IH hS prog w A env e it out pp p t (ch :: r) := by
  intro i esc s₀ s hd hlen hi g gm ho hl
  have hlt : i < p.length := by simp at hlen; omega
  have hch : p[i]? = some ch := by have := congrArg (fun l : List Nat => l[0]?) hd; simpa using this
  have hdr : p.drop (i + 1) = r := by have := congrArg (List.drop 1) hd; simpa [Nat.add_comm] using this
  have hlr : i + 1 + r.length = p.length := by simp at hlen; omega
  refine gen_draw pp C rm hch g fun s1 x1 I1 en1 dr1 => ?_
  have g1 : GT hS env p e it t i esc ch s1 := ⟨I1, en1, dr1⟩
  have gm1 := gm.trans x1
  have flat : ∀ (b : Bool) (d : D), some d ∈ [some (D.str (S p)), some (.int i), some (.bool b), some (.str (S [ch]))] → isFlat d = true := by intro b d hd; simp at hd; rcases hd with rfl | rfl | rfl | rfl <;> rfl
  refine seg_execs_cons (seg_If ?_)
  have ht : ET prog w (m + 1) (Wd.still hS) sG gv [some (.str (S p)), some (.int i), some (.bool esc), some (.str (S [ch]))] () (.Name "escape" (exPos (ifT (nthS gB 0)))) esc () := ET.of (EV.var (.there (.there .here))) (truth_bool esc)
  refine wpAny_mono (ht _ env Nowhere s1 rm C.ft I1) (fun b s2 q => ?_) fun _ _ f => f.elim
  obtain ⟨x2, _, rfl⟩ := q
  have g2 : GT hS env p e it t i b ch s2 := ⟨g1.stand.step x2 trivial, (let ⟨old, h⟩ := g1.en; ⟨old, x2.keep _ _ id h⟩), (let ⟨o, h, r⟩ := g1.dr; ⟨o, x2.keep _ _ id h, r⟩)⟩
  have gm2 := gm1.trans (x2.mono fun _ f => f.elim)
  cases b with
  | true =>
    have ho' : out.drop (out.length - (((i : Int), [92, ch]) :: goE (i + 1) false r).length) = ((i : Int), [92, ch]) :: goE (i + 1) false r := ho
    obtain ⟨hx, hnx, hll⟩ := goE_out ho' hl
    refine seg_execs_cons (seg_yielding (n := (goE (i + 1) false r).length) (x := ((i : Int), [92, ch])) rfl rfl rfl rm C.ft g2.stand (flat true) ?_ hx g2.alive gm2 fun s3 kp => ?_)
    · intro W st
      show EV _ _ _ _ _ _ _ _ _ (.tuple [.int i, .str (S ([92] ++ [ch]))]) _
      walk_at "go"
      rw [show (Str.ofString "\\").cps.toList = [92] by decide +kernel]
      exact op_sadd (by simp)
    · have g3 := g2.keep C.cells kp
      refine seg_execs_cons (seg_set rm C.ft C.cells (C.sts _ (by simp)) g3.stand (EV.boolC false) (.there (.there .here)) rfl fun s4 x4 I4 => ?_)
      have g4 := g3.set C x4 I4
      exact seg_again rfl (ih (i + 1) false s3 s4 hdr hlr hi g4.gi (x4.mono fun _ h => .inl h) hnx hll)
  | false =>
    have tt : ET prog w (m + 1) (Wd.still hS) sG gv [some (.str (S p)), some (.int i), some (.bool false), some (.str (S [ch]))] () (ifT (nthS (ifE (nthS gB 0)) 0)) (ch == 92) () := by
      refine ET.eq (d := ([ch] == [92])) ?_ (by simp)
      exact ET.cmp (EV.var (.there (.there (.there .here)))) (EV.str [92]) op_seq
    refine seg_execs_cons (seg_If ?_)
    refine wpAny_mono (tt _ env Nowhere s2 rm C.ft g2.stand) (fun b s3 q => ?_) fun _ _ f => f.elim
    obtain ⟨x3, _, rfl⟩ := q
    have g3 : GT hS env p e it t i false ch s3 := ⟨g2.stand.step x3 trivial, (let ⟨old, h⟩ := g2.en; ⟨old, x3.keep _ _ id h⟩), (let ⟨o, h, r⟩ := g2.dr; ⟨o, x3.keep _ _ id h, r⟩)⟩
    have gm3 := gm2.trans (x3.mono fun _ f => f.elim)
    by_cases hc : ch = 92
    · have e1 : goE i false (ch :: r) = goE (i + 1) true r := by simp [goE, hc]
      have e3 : (ch == 92) = true := by simp [hc]
      have e2 : goEnd true r = false := by have h : goEnd (ch == 92) r = false := hi; rwa [e3] at h
      rw [e1] at ho hl ⊢
      rw [e3]
      refine seg_execs_cons (seg_set rm C.ft C.cells (C.sts _ (by simp)) g3.stand (EV.boolC true) (.there (.there .here)) rfl fun s4 x4 I4 => ?_)
      have g4 := g3.set C x4 I4
      exact seg_again rfl (ih (i + 1) true s₀ s4 hdr hlr e2 g4.gi (gm3.trans (x4.mono fun _ h => .inl h)) ho hl)
    · have e1 : goE i false (ch :: r) = ((i : Int), [ch]) :: goE (i + 1) false r := by simp [goE, hc]
      have e3 : (ch == 92) = false := by simp [hc]
      have e2 : goEnd false r = false := by have h : goEnd (ch == 92) r = false := hi; rwa [e3] at h
      rw [e1] at ho hl ⊢
      rw [e3]
      obtain ⟨hx, hnx, hll⟩ := goE_out ho hl
      refine seg_execs_cons (seg_yielding (n := (goE (i + 1) false r).length) (x := ((i : Int), [ch])) rfl rfl rfl rm C.ft g3.stand (flat false) ?_ hx g3.alive gm3 fun s4 kp => ?_)
      · intro W st
        show EV _ _ _ _ _ _ _ _ _ (.tuple [.int i, .str (S [ch])]) _
        walk_at "go"
      · have g4 := g3.keep C.cells kp
        exact seg_again rfl (ih (i + 1) false s4 s4 hdr hlr e2 g4.gi (Ext.refl _ _) hnx hll)
end
end
section
noncomputable def forI : Stmt → Expr
  | .For _ i _ _ _ => i
  | _ => .Constant .none 0 default
noncomputable def argE : Expr → Expr
  | .Call _ (a :: _) _ _ => a
  | _ => .Constant .none 0 default
section
variable {hS : Heap} {prog : Program} {w : World} {m n : Nat} {A : Around} {env : Env} {e it : Addr} {out : List (Int × List Nat)} {s₀ s : Shared} {c : Code} {fs : List Frame}
  {K : Flow → Sem Fin} {H : Value → Sem Fin} {gd : Bool → Bool} {lv : List Value → List Value} {ρ ρ' : List (Option D)}
theorem get_none {h : Heap} {a : Addr} (ha : h.objs.size ≤ a) : h.get? a = none := by
  cases e : h.get? a with
  | none => rfl
  | some o => exact absurd (Heap.lt_size e) (Nat.not_lt.mpr ha)
/-- a store in a frame without cells, its size told -/
theorem still_store {x : Str} {d : D} {v : Value} {vars : List Str} (I : Stand (Wd.still hS) Nowhere env vars ρ () s) (ft : Fits sG env) (hc : env.cells = []) (hf : ∀ d, some d ∈ ρ' → isFlat d = true) (hk : env.kindOf x = some .local) (nd : vars.Nodup) (hp : Put vars ρ x d ρ') (hr : Rep Nowhere s.heap v d) {Q : Unit → Shared → Prop} {E : Value → Shared → Prop}
    (next : ∀ h', Heap.SameBut env.locals s.heap h' → Stand (Wd.still hS) Nowhere env vars ρ' () { s with heap := h', toks := s.toks + 1 } → Q () { s with heap := h', toks := s.toks + 1 }) : wpAny (model prog w) A (storeName env x v) Q E s := by
  obtain ⟨i, h1, rfl⟩ := hp.idx
  obtain ⟨m₀, hm₀⟩ := I.ns
  refine wpAny_storeName_local hk hm₀ (fun h' hn' hs => next h' hs ?_) (by rw [ft.scope, ft.kind]; rfl)
  refine ⟨fun a o e => ?_, fun _ f => f.elim, fun _ f => f.elim, trivial, ⟨_, hn'⟩, I.locals, I.localsS, I.cells, I.cellsS, (fun y c h => by rw [hc] at h; cases h), I.inj, fun j y d' h2 h3 => ?_⟩
  · show h'.get? a = some o
    rw [hs.2 a (fun q => by rw [q, I.localsS] at e; cases e)]; exact I.static a o e
  · by_cases hj : j = i
    · subst hj
      rw [h1] at h2; cases h2
      have : d' = d := by
        rw [List.getElem?_set_self'] at h3
        cases hq : ρ[j]? with
        | none => rw [hq] at h3; cases h3
        | some q => rw [hq] at h3; cases h3; rfl
      subst this
      exact ⟨v, .inl ⟨hk, _, hn', by simp⟩, (hr.toFlat (h' := s.heap) (hf d' (List.mem_of_getElem? h3))).flat⟩
    · have hne : y ≠ x := fun q => hj (nodup_idx nd (q ▸ h2) h1)
      have h4 := h3
      rw [List.getElem?_set_ne (fun q => hj q.symm)] at h4
      obtain ⟨u, hu, hr'⟩ := I.sto j y d' h2 h4
      refine ⟨u, ?_, (hr'.toFlat (h' := s.heap) (hf d' (List.mem_of_getElem? h3))).flat⟩
      rcases hu with ⟨k1, m, hm, hv⟩ | ⟨_, c, hcc, _⟩
      · refine .inl ⟨k1, _, hn', ?_⟩
        show (if y = x then some v else m₀ y) = some u
        rw [if_neg hne, ← Heap.Ns.agree hm hm₀ y]; exact hv
      · rw [hc] at hcc; cases hcc
theorem gen_all (pp : Pos) {p : List Nat} {t : Tok} (C : GC hS env e it) (rf : Room (A.over (.func bG env) []) m) (rm : Room (A.over (gC e env) [gF env pp]) (m + 1)) : ∀ r, IH hS prog w A env e it out pp p t r
  | [] => gen_nil pp C rf rm
  | _ :: r => gen_cons pp C rm (gen_all pp C rf rm r)
theorem gen_start {p : List Nat} (hb : Blt hS "enumerate" (.type "enumerate")) (ft : Fits sG env) (hc : env.cells = []) (hk : ∀ x ∈ gv, env.kindOf x = some .local) (rm : Room A (m + 4)) (hE : goEnd false p = false)
    (I : Stand (Wd.still hS) Nowhere env gv [some (.str (S p)), none, none, none] () s) :
    Seg (model prog w) A (GR env.locals (s.heap.objs.size + 1) s.heap.objs.size) (GY hS env.locals (s.heap.objs.size + 1) s.heap.objs.size (goE 0 false p)) (goE 0 false p).length s (.func bG env) ((model prog w).den (.func bG env)) [] s := by
  have rf0 : Room (A.over (.func bG env) []) (m + 3) := room_func rm bG env
  have rf : Room (A.over (.func bG env) []) m := rf0.le (by omega)
  refine seg_func (seg_execs_cons (seg_wrap (wpAny_Assign_Name (wpAny_Constant_int (still_store (d := .int 0) (ρ' := [some (.str (S p)), some (.int 0), none, none]) (I.step0 .tok) ft hc ?_ (hk _ (by simp)) (by decide +kernel) (.there .here) (.int _ _) fun h1 hs1 I1 => ?_)) rfl)))
  · intro d hd; simp at hd; rcases hd with rfl | rfl <;> rfl
  refine seg_execs_cons (seg_wrap (wpAny_Assign_Name (wpAny_pure (still_store (d := .bool false) (ρ' := [some (.str (S p)), some (.int 0), some (.bool false), none]) I1 ft hc ?_ (hk _ (by simp)) (by decide +kernel) (.there (.there .here)) (.bool _) fun h2 hs2 I2 => ?_)) rfl))
  · intro d hd; simp at hd; rcases hd with rfl | rfl | rfl <;> rfl
  have hsz : h2.objs.size = s.heap.objs.size := hs2.1.trans hs1.1
  refine seg_execs_cons (seg_For (fun x => rfl) ?_)
  obtain ⟨mg, mb, hn, hm, hn', hm'⟩ := hb
  have hkf : env.scope.kind = .function := by rw [ft.scope]; exact ft.kind
  refine Call_ (Calls.Name_function_global hkf (by unfold Env.kindOf; rw [ft.scope]; decide +kernel) (Calls.loadGlobal_builtin (by rw [ft.globals]; exact hn.keeps I2.static) hm (by rw [ft.builtins]; exact hn'.keeps I2.static) hm' ?_))
  refine PyProof.Rows.callWith_type rfl (Calls.evalArgs_plain (args_cons (e := .Name "addr" (exPos (argE (forI (nthS bG 2))))) (rest := []) (env := env) ?_ rfl))
  obtain ⟨v, hv, hr⟩ := I2.sto 0 "addr" (.str (S p)) rfl rfl
  obtain ⟨t, rfl⟩ := hr.of_str
  rcases hv with ⟨hl, m1, hn1, hm1⟩ | ⟨_, c, hcc, _⟩
  · refine wpAny_Name (wpAny_loadName_local hkf hl hn1 hm1 (args_nil ?_)) (by decide +kernel)
    refine call_enumerate_str fun h3 hen hdr hsz3 keep => ?_
    refine wpAny_pyIter_enum hen fun pp => ?_
    have hh2 : ({ heap := h2, gens := s.gens, drawn := s.drawn, toks := s.toks + 1, os := s.os } : Shared).heap.objs.size = s.heap.objs.size := hsz
    rw [hsz] at hen hdr hsz3
    obtain ⟨mL, oL, _, _, hL, _⟩ := I.ns
    have hLs : env.locals < s.heap.objs.size := Heap.lt_size hL
    have C : GC hS env (s.heap.objs.size + 1) s.heap.objs.size := ⟨ft, hc, fun x hx => .inl (hk x hx), Nat.ne_of_lt (Nat.lt_succ_of_lt hLs), Nat.ne_of_lt hLs, Nat.succ_ne_self _, by
      cases q : hS.get? (s.heap.objs.size + 1) with
      | none => rfl
      | some o => exact absurd (Heap.lt_size (I.static _ _ q)) (Nat.not_lt.mpr (Nat.le_succ _)), by
      cases q : hS.get? s.heap.objs.size with
      | none => rfl
      | some o => exact absurd (Heap.lt_size (I.static _ _ q)) (Nat.lt_irrefl _)⟩
    have keepL : ∀ b o, b ≠ env.locals → s.heap.get? b = some o → h3.get? b = some o := fun b o nb q => keep b o (by
      show h2.get? b = some o
      rw [hs2.2 b nb]
      show h1.get? b = some o
      rw [hs1.2 b nb]; exact q)
    have I3 : Stand (Wd.still hS) Nowhere env gv [some (.str (S p)), some (.int 0), some (.bool false), none] () { s with heap := h3, toks := s.toks + 1 + 1 + 1 } :=
      still_keep I2 hc (by intro d hd; simp at hd; rcases hd with rfl | rfl | rfl <;> rfl) (fun o q => keep _ o q) fun b o q => keep b o (I2.static b o q)
    have hgi : GI hS env p (s.heap.objs.size + 1) s.heap.objs.size t 0 false { s with heap := h3, toks := s.toks + 1 + 1 + 1 } := ⟨I3, ⟨_, hen⟩, hdr⟩
    have hgm : GMv env.locals (s.heap.objs.size + 1) s.heap.objs.size s { s with heap := h3, toks := s.toks + 1 + 1 + 1 } := ⟨fun b o nb q => keepL b o (fun z => nb (.inl z)) q, rfl, Nat.le_refl _, fun _ _ => rfl, fun b => b⟩
    have res := gen_all (w := w) (prog := prog) (A := A) (m := m) (out := goE 0 false p) pp (t := t) C rf (room_loop (rm.le (by omega)) gT _ gB [] bG) p 0 false s _ rfl (by simp) hE hgi hgm (by simp) (Nat.le_refl _)
    rw [hh2]
    exact res
  · rw [hc] at hcc; cases hcc
end
end
section
section
variable {hS : Heap} {prog : Program} {w : World} {m n : Nat} {A : Around} {env : Env} {e it : Addr} {out : List (Int × List Nat)} {s₀ s : Shared}

theorem bare_set {s : Shared} {g : Nat} {x : GenState} (hx : x.bare = true) (h : AllBare s.gens) : AllBare (s.setGen g x).gens := by
  intro y hy
  obtain ⟨i, hi⟩ := Array.getElem?_of_mem hy
  rw [show (s.setGen g x).gens = s.gens.setIfInBounds g x from rfl, Array.getElem?_setIfInBounds] at hi
  split at hi
  · split at hi
    · cases hi; exact hx
    · cases hi
  · exact h y (Array.mem_of_getElem? hi)
theorem setGen_other {s : Shared} {g g' : Nat} {x : GenState} (h : g' ≠ g) : (s.setGen g x).gens[g']? = s.gens[g']? := by
  rw [show (s.setGen g x).gens = s.gens.setIfInBounds g x from rfl, Array.getElem?_setIfInBounds, if_neg (fun q => h q.symm)]
theorem setGen_self {s : Shared} {g : Nat} {x y : GenState} (h : s.gens[g]? = some y) : (s.setGen g x).gens[g]? = some x := by
  have hlt : g < s.gens.size := (Array.getElem?_eq_some_iff.mp h).1
  rw [show (s.setGen g x).gens = s.gens.setIfInBounds g x from rfl, Array.getElem?_setIfInBounds, if_pos rfl, if_pos hlt]
theorem setGen_size {s : Shared} {g : Nat} {x : GenState} : (s.setGen g x).gens.size = s.gens.size := by
  show (s.gens.setIfInBounds g x).size = _
  simp
theorem gm_mvd {L : Addr} {g G0 : Nat} {gs gs' : GenState} {ow : List Addr} {s₁ : Shared} (hG : G0 ≤ g) (hgs : s.gens[g]? = some gs) (hb : gs'.bare = true) (gm : GMv L e it (s.setGen g .running) s₁)
    (h3 : ∀ b o, b = L ∨ b = e ∨ b = it → s.heap.get? b = some o → b ∈ ow) {h' : Heap} (hk : ∀ b o, s₁.heap.get? b = some o → h'.get? b = some o) : Mvd G0 ow s { s₁.setGen g gs' with heap := h' } where
  heap := fun b o nb q => hk b o (gm.keep b o (fun z => nb (h3 b o z q)) q)
  os := gm.os
  gsize := by
    show _ ≤ (s₁.setGen g gs').gens.size
    rw [setGen_size]
    have := gm.gsize
    rw [setGen_size] at this
    exact this
  gens := fun g' hg' => by
    have hlt : g < s.gens.size := (Array.getElem?_eq_some_iff.mp hgs).1
    have hne : g' ≠ g := fun q => absurd (q ▸ hg') (Nat.not_lt.mpr hG)
    show (s₁.setGen g gs').gens[g']? = _
    rw [setGen_other hne, gm.gens g' (by rw [setGen_size]; exact Nat.lt_trans (Nat.lt_of_lt_of_le hg' hG) hlt), setGen_other hne]
  bare := fun b => bare_set (s := s₁) hb (gm.bare (bare_set rfl b))
noncomputable def GGoes (hS : Heap) (prog : Program) (w : World) (A : Around) (L e it : Addr) (out : List (Int × List Nat)) (n : Nat) (gs : GenState) (s : Shared) : Prop :=
  gs.Goes (model prog w) A.in1 (GR L e it) (GY hS L e it out) n (.send .none) s
noncomputable def GSt (hS : Heap) (prog : Program) (w : World) (A : Around) (s₀ : Shared) (I : Addr) (g : Nat) (env : Env) (p : List Nat) (out : List (Int × List Nat)) : Nat → List Addr → Shared → Prop
  | 0, ow, s => ow = [env.locals] ∧ I ≠ env.locals ∧ s.heap.IsGen I g ∧ s.gens[g]? = some (.fresh (.func bG env)) ∧ s.heap.NoLimit ∧ (∀ b, s.heap.objs.size ≤ b → s₀.heap.get? b = none) ∧ Stand (Wd.still hS) Nowhere env gv [some (.str (S p)), none, none, none] () s
  | i + 1, ow, s => ∃ e it gs, ow = [env.locals, e, it] ∧ ¬ (I = env.locals ∨ I = e ∨ I = it) ∧ s.heap.IsGen I g ∧ s.gens[g]? = some gs ∧ s.heap.NoLimit ∧ Alive3 env.locals e it s ∧ s₀.heap.get? e = none ∧ s₀.heap.get? it = none ∧ i + 1 ≤ out.length ∧ (∀ b o, hS.get? b = some o → s.heap.get? b = some o) ∧
      ∀ s'', GKp hS env.locals e it s s'' → GGoes hS prog w A env.locals e it out (out.length - (i + 1)) gs s''
/-- a resumption -/
theorem gen_resume {I L : Addr} {g i : Nat} {gs : GenState} {ow : List Addr} {Q : Option Value → Shared → Prop} {x : Int × List Nat} (hl : hS.NoLimit) (hh : A.handled = none) (hroom : A.depth < recursionLimit) (hG : s₀.gens.size ≤ g) (hgen : s.heap.IsGen I g) (hnl : s.heap.NoLimit) (hgs : s.gens[g]? = some gs)
    (h3 : ∀ b o, b = L ∨ b = e ∨ b = it → s.heap.get? b = some o → b ∈ ow) (hI3 : ¬ (I = L ∨ I = e ∨ I = it))
    (hx : out[i]? = some x) (goes : GGoes hS prog w A L e it out (out.length - i) gs (s.setGen g .running))
    (next : ∀ T vs s' gs', s.heap.get? T = none → (∀ b, b = L ∨ b = e ∨ b = it → T ≠ b) → s'.heap.IsTuple T vs.toArray → Reps Flat s'.heap vs (tD x) → s'.heap.IsGen I g → s'.gens[g]? = some gs' → s'.heap.NoLimit → Alive3 L e it s' → (∀ b o, hS.get? b = some o → s'.heap.get? b = some o) →
      (∀ s'', GKp hS L e it s' s'' → GGoes hS prog w A L e it out (out.length - (i + 1)) gs' s'') → Mvd s₀.gens.size ow s s' → Q (some (.ref T)) s') : wpAny (model prog w) A (pyNext (.ref I)) Q (fun _ _ => False) s := by
  have hlt : i < out.length := (List.getElem?_eq_some_iff.mp hx).1
  obtain ⟨k, hk⟩ : ∃ k, out.length - i = k + 1 := ⟨out.length - i - 1, by omega⟩
  rw [hk] at goes
  refine next_gen (P := fun n a b => n = 0 ∧ GMv L e it a b) (Y := GY hS L e it out) hh hnl hroom hgen hgs goes (fun v s₁ gs' hb y => ?_) fun s₁ hp => absurd hp.1 (Nat.succ_ne_zero k)
  obtain ⟨x', T, vs, hx', rfl, hT, hT3, htup, hr, gm, al, hst, kap⟩ := y
  have e1 : out.length - 1 - (k + 1 - 1) = i := by omega
  rw [e1, hx] at hx'
  cases hx'
  have e2 : out.length - (i + 1) = k := by omega
  have mv := gm_mvd (G0 := s₀.gens.size) hG hgs hb gm h3 (h' := s₁.heap) (fun _ _ q => q)
  refine next T vs _ gs' hT hT3 htup hr ?_ ?_ (hl.keeps hst) al hst (fun s'' kp => ?_) mv
  · obtain ⟨o, nm, qn, ho, r⟩ := hgen
    exact ⟨o, nm, qn, gm.keep I o hI3 ho, r⟩
  · have hlt : g < s₁.gens.size := Nat.lt_of_lt_of_le (by rw [setGen_size]; exact (Array.getElem?_eq_some_iff.mp hgs).1) gm.gsize
    exact setGen_self (y := s₁.gens[g]) (by simp [hlt])
  · rw [e2]
    exact kap s'' ⟨kp.own, kp.stat⟩
/-- the last resumption -/
theorem gen_over {I L : Addr} {g : Nat} {gs : GenState} {ow : List Addr} {Q : Option Value → Shared → Prop} (hh : A.handled = none) (hroom : A.depth < recursionLimit) (hG : s₀.gens.size ≤ g) (hgen : s.heap.IsGen I g) (hnl : s.heap.NoLimit) (hgs : s.gens[g]? = some gs)
    (h3 : ∀ b o, b = L ∨ b = e ∨ b = it → s.heap.get? b = some o → b ∈ ow) (goes : GGoes hS prog w A L e it out 0 gs (s.setGen g .running))
    (next : ∀ s', Mvd s₀.gens.size ow s s' → Q none s') : wpAny (model prog w) A (pyNext (.ref I)) Q (fun _ _ => False) s := by
  refine next_gen (P := fun n a b => n = 0 ∧ GMv L e it a b) (Y := GY hS L e it out) (n := 0) hh hnl hroom hgen hgs goes (fun v s₁ gs' hb y => ?_) fun s₁ hp h' hk => ?_
  · obtain ⟨x', T, vs, hx', rfl, hT, hT3, htup, hr, gm, al, hst, kap⟩ := y
    exact (kap s₁ ⟨fun _ _ _ q => q, hst⟩).elim
  · exact next _ (gm_mvd (gs' := .finished) hG hgs rfl hp.2 h3 hk)
theorem gen_src {I : Addr} {g : Nat} {p : List Nat} (hl : hS.NoLimit) (hb : Blt hS "enumerate" (.type "enumerate")) (ft : Fits sG env) (hc : env.cells = []) (hk : ∀ x ∈ gv, env.kindOf x = some .local) (rm : Room A (m + 5)) (hE : goEnd false p = false)
    (hG : s₀.gens.size ≤ g) (hI0 : s₀.heap.get? I = none) (hL0 : s₀.heap.get? env.locals = none) :
    Src hS prog w A s₀ I ((goE 0 false p).map tD) (GSt hS prog w A s₀ I g env p (goE 0 false p)) where
  frame := fun i ow s s' hi st fr stat gk => by
    cases i with
    | zero => exact absurd hi (Nat.lt_irrefl 0)
    | succ i =>
      obtain ⟨e, it, gs, rfl, hI3, hgen, hgs, hnl, al, he, hit, hle, stt, goes⟩ := st
      have own : ∀ b o, b = env.locals ∨ b = e ∨ b = it → s.heap.get? b = some o → s'.heap.get? b = some o := fun b o hb q => fr b o (by rcases hb with rfl | rfl | rfl <;> assumption) q
      refine ⟨e, it, gs, rfl, hI3, ?_, ?_, hl.keeps stat, fun b hb => let ⟨o, q⟩ := al b hb; ⟨o, own b o hb q⟩, he, hit, hle, stat, fun s'' kp => goes s'' ⟨fun b o hb q => kp.own b o hb (own b o hb q), kp.stat⟩⟩
      · obtain ⟨o, nm, qn, ho, r⟩ := hgen
        exact ⟨o, nm, qn, fr I o hI0 ho, r⟩
      · rw [gk g (Array.getElem?_eq_some_iff.mp hgs).1]; exact hgs
  item := fun i ow s Q ts hts st next => by
    rw [List.getElem?_map] at hts
    obtain ⟨x, hx, rfl⟩ := Option.map_eq_some_iff.mp hts
    have hh : A.handled = none := rm.handled
    have hd : A.depth < recursionLimit := by have := rm.depth; omega
    have hlt : i < (goE 0 false p).length := (List.getElem?_eq_some_iff.mp hx).1
    cases i with
    | zero =>
      obtain ⟨rfl, hIL, hgen, hgs, hnl, none0, I1⟩ := st
      obtain ⟨o, nm, qn, ho, _⟩ := id hgen
      have hIs := Heap.lt_size ho
      have start : GGoes hS prog w A env.locals (s.heap.objs.size + 1) s.heap.objs.size (goE 0 false p) (goE 0 false p).length (.fresh (.func bG env)) (s.setGen g .running) := ⟨rfl, gen_start (s := s.setGen g .running) hb ft hc hk rm.in1 hE (still_keep I1 hc (by intro d hd; simp at hd; subst hd; rfl) (fun _ q => q) I1.static)⟩
      refine gen_resume (i := 0) (ow := [env.locals]) hl hh hd hG hgen hnl hgs ?_ ?_ hx start fun T vs s' gs' hT hT3 htup hr hgen' hgs' hnl' al stt' kap mv => ?_
      · rintro b o (rfl | rfl | rfl) q
        · simp
        · exact absurd (Heap.lt_size q) (Nat.not_lt.mpr (Nat.le_succ _))
        · exact absurd (Heap.lt_size q) (Nat.lt_irrefl _)
      · rintro (q | q | q)
        · exact hIL q
        · rw [q] at hIs; exact absurd hIs (Nat.not_lt.mpr (Nat.le_succ _))
        · rw [q] at hIs; exact absurd hIs (Nat.lt_irrefl _)
      · refine next T vs s' [env.locals, s.heap.objs.size + 1, s.heap.objs.size] hT ?_ htup hr ⟨_, _, gs', rfl, ?_, hgen', hgs', hnl', al, none0 _ (Nat.le_succ _), none0 _ (Nat.le_refl _), hlt, stt', kap⟩ (by simp) ?_ mv
        · simp only [List.mem_cons, List.not_mem_nil, or_false]
          rintro q
          exact hT3 T q rfl
        · rintro (q | q | q)
          · exact hIL q
          · rw [q] at hIs; exact absurd hIs (Nat.not_lt.mpr (Nat.le_succ _))
          · rw [q] at hIs; exact absurd hIs (Nat.lt_irrefl _)
        · intro b hb'
          simp only [List.mem_cons, List.not_mem_nil, or_false] at hb'
          rcases hb' with rfl | rfl | rfl
          · exact .inl (by simp)
          · exact .inr (get_none (Nat.le_succ _))
          · exact .inr (get_none (Nat.le_refl _))
    | succ i =>
      obtain ⟨e, it, gs, rfl, hI3, hgen, hgs, hnl, al, he, hit, hle, stt, goes⟩ := st
      refine gen_resume (i := i + 1) (e := e) (it := it) (L := env.locals) (ow := [env.locals, e, it]) hl hh hd hG hgen hnl hgs ?_ hI3 hx (goes _ ⟨fun _ _ _ q => q, stt⟩) fun T vs s' gs' hT hT3 htup hr hgen' hgs' hnl' al' stt' kap mv => ?_
      · rintro b o q _; simpa using q
      · refine next T vs s' [env.locals, e, it] hT ?_ htup hr ⟨_, _, gs', rfl, hI3, hgen', hgs', hnl', al', he, hit, hlt, stt', kap⟩ (fun _ h => h) (fun _ h => .inl h) mv
        simp only [List.mem_cons, List.not_mem_nil, or_false]
        rintro q
        exact hT3 T q rfl
  done := fun ow s Q st next => by
    have hh : A.handled = none := rm.handled
    have hd : A.depth < recursionLimit := by have := rm.depth; omega
    rw [List.length_map] at st
    cases hq : (goE 0 false p).length with
    | zero =>
      rw [hq] at st
      obtain ⟨rfl, hIL, hgen, hgs, hnl, none0, I1⟩ := st
      have start : GGoes hS prog w A env.locals (s.heap.objs.size + 1) s.heap.objs.size (goE 0 false p) (goE 0 false p).length (.fresh (.func bG env)) (s.setGen g .running) := ⟨rfl, gen_start (s := s.setGen g .running) hb ft hc hk rm.in1 hE (still_keep I1 hc (by intro d hd; simp at hd; subst hd; rfl) (fun _ q => q) I1.static)⟩
      rw [hq] at start
      refine gen_over (ow := [env.locals]) hh hd hG hgen hnl hgs ?_ start next
      rintro b o (rfl | rfl | rfl) q
      · simp
      · exact absurd (Heap.lt_size q) (Nat.not_lt.mpr (Nat.le_succ _))
      · exact absurd (Heap.lt_size q) (Nat.lt_irrefl _)
    | succ i =>
      rw [hq] at st
      obtain ⟨e, it, gs, rfl, hI3, hgen, hgs, hnl, al, he, hit, hle, stt, goes⟩ := st
      rw [hq, Nat.sub_self] at goes
      refine gen_over (e := e) (it := it) (L := env.locals) (ow := [env.locals, e, it]) hh hd hG hgen hnl hgs ?_ (goes _ ⟨fun _ _ _ q => q, stt⟩) next
      rintro b o q _; simpa using q
  go := fun i ow s t v Q st q => by
    have hgen : s.heap.IsGen I g := by
      cases i with
      | zero => exact st.2.2.1
      | succ i => obtain ⟨e, it, gs, _, _, h, _⟩ := st; exact h
    obtain ⟨o, nm, qn, ho, hc, _⟩ := hgen
    exact letgo_of ho hc (by decide) q
  seen := fun i ow s st b hb => by
    cases i with
    | zero =>
      obtain ⟨rfl, _, _, _, _, _, I1⟩ := st
      obtain ⟨m, o, _, _, q, _⟩ := I1.ns
      simp at hb; subst hb
      exact ⟨o, q⟩
    | succ i =>
      obtain ⟨e, it, gs, rfl, _, hgen, hgs, hnl, al, _⟩ := st
      exact al b (by simpa using hb)
  new := fun i ow s st b hb => by
    cases i with
    | zero => obtain ⟨rfl, _⟩ := st; simp at hb; subst hb; exact hL0
    | succ i =>
      obtain ⟨e, it, gs, rfl, _, hgen, hgs, hnl, al, he, hit, _⟩ := st
      simp at hb; rcases hb with rfl | rfl | rfl <;> assumption
end
end
section
section
variable {hS : Heap} {prog : Program} {w : World} {m n : Nat}
variable {W : Wd hS} {sc : Scope} {vars : List Str} {ρ ρ' : List (Option D)} {st st₁ st₂ : W.σ}
theorem alive_lt {s s' : Shared} {a : Addr} {o : Obj} (x : Ext W.Mut s s') (h : W.holds st s') (e : s.heap.get? a = some o) : a < s'.heap.objs.size := by
  by_cases hm : W.Mut a
  · obtain ⟨o', e'⟩ := W.alive h a (W.mutF a hm); exact Heap.lt_size e'
  · exact Heap.lt_size (x.keep a o hm e)
theorem none_of_ge {s s' : Shared} {a : Addr} (x : Ext W.Mut s s') (h : W.holds st s') (ha : s'.heap.objs.size ≤ a) : s.heap.get? a = none := by
  cases e : s.heap.get? a with
  | none => rfl
  | some o => exact absurd (alive_lt x h e) (Nat.not_lt.mpr ha)
theorem EVis.gen {x : Str} {p pos : Pos} {args : List Expr} {a : Addr} {txt : List Nat} (hl : hS.NoLimit) (hb : Blt hS "enumerate" (.type "enumerate")) (F : FnAt hS a sG ["addr"] bG)
    (hf : EV prog w (m + 8) W sc vars ρ st (.Name x p) (.raw (.ref a)) st₁) (q : EVs prog w (m + 8) W sc vars ρ st₁ args [.str (S txt)] st₂) (hE : goEnd false txt = false) :
    EVis prog w (m + 8) W sc vars ρ st (.Call (.Name x p) args [] pos) ((goE 0 false txt).map tD) st₂ := fun A env U s r ft I => by
  refine Call_ (wpAny_mono (hf A env U s r ft I) (fun v s1 q1 => ?_) fun _ _ x => x)
  have e := q1.2.2.of_raw
  subst e
  refine callWith_of F.callee q r ft (I.step q1.1 q1.2.1) fun vs s2 x2 I2 r2 => ?_
  have x02 : Ext W.Mut s s2 := q1.1.trans x2
  obtain ⟨v, rfl, rv⟩ := r2.one
  obtain ⟨t, rfl⟩ := rv.of_str
  obtain ⟨o, fd, ho, hd, hcl, hgl, hbl, hbd, hsc, hcd, hbind⟩ := F.at_
  refine wpAny_call (codeAny_call_generator (fd := fd) (body := bG) (by have := r.depth; omega) (I2.static _ _ ho) hd (by rw [hsc]; rfl) (by rw [hsc]; rfl) hbd (hcd.keeps I2.static) ?_)
  have hb1 := hbind [.str (S txt) t] rfl
  refine Eq.mp (congrArg (fun z => wpAny _ _ z _ _ _) hb1.symm) ?_
  rw [hcl, hgl, hbl, hsc]
  have k5 : sG.kind = .function := rfl
  refine wpAny_pure (wpAny_newFunctionEnv_cells k5 (fun x hx => ?_) fun envg henv s₂ hin => ?_)
  · simp at hx; subst hx; exact .inl (show sG.names.lookup ("addr" : Str) = some NameKind.local by decide +kernel)
  have hko : ∀ x, envg.kindOf x = sG.names.lookup x := fun x => by rw [henv]; rfl
  have hft : Fits sG envg := ⟨by rw [henv]; rfl, k5, by rw [henv]; rfl, by rw [henv]; rfl⟩
  have hloc : envg.locals = s2.heap.objs.size := by rw [henv]; rfl
  have hcells : envg.cells = [] := by rw [henv]; rfl
  obtain ⟨⟨h₂, tk₂, rfl⟩, hns, hkeep, hfresh⟩ := hin.toInCall
  have x3 : Ext Nowhere s2 { s2 with heap := h₂, toks := tk₂ } := .heap hkeep
  have hstat3 : ∀ b o, hS.get? b = some o → h₂.get? b = some o := fun b o z => hkeep b o (I2.static b o z)
  have hnl : h₂.NoLimit := hl.keeps hstat3
  refine ⟨hnl, ?_⟩
  show wpAny (model prog w) A (pyIter (.ref h₂.objs.size)) _ _ { heap := h₂.push _, gens := s2.gens.push (.fresh (.func bG envg)), drawn := s2.drawn, toks := tk₂ + 1 + 1, os := s2.os }
  have hI : ({ heap := h₂, gens := s2.gens, drawn := s2.drawn, toks := tk₂, os := s2.os } : Shared).heap = h₂ := rfl
  have hgen : (h₂.push { cls := .type "generator", data := .fields #[.int (s2.gens.size : Nat) 0, .str fd.name tk₂, .str fd.qualname (tk₂ + 1)] }).IsGen h₂.objs.size s2.gens.size := ⟨_, _, _, Heap.get?_push_size _ rfl, rfl, rfl, rfl⟩
  have keep4 : ∀ b o, s2.heap.get? b = some o → (h₂.push { cls := .type "generator", data := .fields #[.int (s2.gens.size : Nat) 0, .str fd.name tk₂, .str fd.qualname (tk₂ + 1)] }).get? b = some o := fun b o z => Heap.get?_push_of_some _ (hkeep b o z)
  refine wpAny_pyIter_gen (g := s2.gens.size) hgen ?_
  have x4 : Ext Nowhere s2 { heap := h₂.push { cls := .type "generator", data := .fields #[.int (s2.gens.size : Nat) 0, .str fd.name tk₂, .str fd.qualname (tk₂ + 1)] }, gens := s2.gens.push (.fresh (.func bG envg)), drawn := s2.drawn, toks := tk₂ + 1 + 1, os := s2.os } :=
    ⟨fun b o _ z => keep4 b o z, rfl, by simp, fun g hg => by
      show (s2.gens.push _)[g]? = _
      rw [Array.getElem?_push, if_neg (Nat.ne_of_lt hg)], fun z => z.push rfl⟩
  obtain ⟨oL, _, _, hL, _⟩ := id hns
  have hLlt : envg.locals < h₂.objs.size := Heap.lt_size hL
  have none2 : ∀ b, s2.heap.objs.size ≤ b → s.heap.get? b = none := fun b hb => none_of_ge x02 I2.hold hb
  have hI2 : s2.heap.objs.size ≤ h₂.objs.size := Nat.le_trans (Nat.le_of_eq hloc.symm) (Nat.le_of_lt hLlt)
  refine ⟨x02.trans x4.any, I2.hold0 x4, _, _, _, rfl, gen_src (m := m + 3) hl hb hft hcells (fun x hx => ?_) r hE x02.gsize (none2 _ hI2) (none2 _ (Nat.le_of_eq hloc.symm)), rfl, ?_, hgen, ?_, hnl.keeps fun b o z => Heap.get?_push_of_some _ z, ?_, ?_⟩
  · rw [hko]
    simp only [gv, List.mem_cons, List.not_mem_nil, or_false] at hx
    rcases hx with rfl | rfl | rfl | rfl <;> decide +kernel
  · exact fun z => absurd hLlt (by rw [z]; exact Nat.lt_irrefl _)
  · show (s2.gens.push _)[s2.gens.size]? = _
    simp
  · intro b hb'
    refine none2 b (Nat.le_trans hI2 (Nat.le_trans ?_ hb'))
    show h₂.objs.size ≤ (h₂.push _).objs.size
    simp [Heap.push]
  · have nocell : ∀ {x : Str} {c : Addr}, envg.cells.lookup x = some c → False := fun h => by rw [hcells] at h; cases h
    refine ⟨fun b o z => keep4 b o (I2.static b o z), fun _ f => f.elim, fun _ f => f.elim, trivial, ⟨_, hns.at' fun o z => Heap.get?_push_of_some _ z⟩, fun f => f, ?_, fun _ _ h => (nocell h).elim, fun _ _ h => (nocell h).elim, fun _ _ h => (nocell h).elim, fun _ _ _ h => (nocell h).elim, fun i x d h1 h2 => ?_⟩
    · cases z : hS.get? envg.locals with
      | none => rfl
      | some o' => exact absurd (Heap.lt_size (I2.static _ _ z)) (by rw [hloc]; exact Nat.lt_irrefl _)
    · match i with
      | 0 =>
        simp only [List.getElem?_cons_zero, Option.some.injEq] at h1 h2
        subst h1; subst h2
        refine ⟨.str (S txt) t, .inl ⟨by rw [hko]; decide +kernel, _, hns.at' fun o z => Heap.get?_push_of_some _ z, ?_⟩, .str _ _⟩
        rw [bindL_of (by rw [hko]; decide +kernel) _ _ (by simp)]
        simp
      | 1 => simp at h2
      | 2 => simp at h2
      | 3 => simp at h2
      | i + 4 => simp at h2
end
end
section
section
variable {hS : Heap} {prog : Program} {w : World} {n : Nat}
variable {W : Wd hS} {sc : Scope} {vars : List Str} {ρ ρ' : List (Option D)} {st st₁ st₂ : W.σ}
/-- does q stand in p -/
noncomputable def hasS (p q : List Nat) : Bool := !(Builtin.Str.occurrences (S p) (S q) 0 (S p).length 1).isEmpty
theorem op_sin {p q : List Nat} : Op hS prog w n (Cmp .In) [.str (S q), .str (S p)] (.bool (hasS p q)) := .cmp fun _ _ _ _ _ _ h1 h2 => by
  obtain ⟨_, rfl⟩ := h1.of_str; obtain ⟨_, rfl⟩ := h2.of_str
  exact in_str ⟨.refl _ _, .bool _⟩
theorem op_snotin {p q : List Nat} : Op hS prog w n (Cmp .NotIn) [.str (S q), .str (S p)] (.bool (!hasS p q)) := .cmp fun _ _ _ _ _ _ h1 h2 => by
  obtain ⟨_, rfl⟩ := h1.of_str; obtain ⟨_, rfl⟩ := h2.of_str
  exact notIn_str ⟨.refl _ _, .bool _⟩
theorem ownJoin {a : Addr} {h1 : hS.get? a = none} {h2 : ¬ W.foot a} {ls : List (List Nat)} (hsz : (ls.map (·.length)).sum + ls.length * 64 ≤ 1000000) :
    OpW (W.own a h1 h2) prog w n (st, ls.map fun x => .str (S x)) (Call (.builtin "str.join")) [.str (S []), .raw (.ref a)] (.str (S ls.flatten)) (st, ls.map fun x => .str (S x)) := fun A U s vs rm stat mu low hold q => by
  obtain ⟨u, v, rfl, q1, q2⟩ := q.two
  have := q2.of_raw; subst this
  obtain ⟨ws, hl, r⟩ := hold.2
  have rr : Rep Nowhere s.heap (.ref a) (dS ls) := .list a ws _ id hl r.flat
  exact wpAny_mono (op_join (hS := hS) (n := n) hsz A Nowhere s [u, .ref a] rm stat (fun _ f => f.elim) (.cons (by obtain ⟨_, rfl⟩ := q1.of_str; exact .str _ _) (.cons rr .nil)))
    (fun v s' z => ⟨z.1.any, ⟨W.still0 hold.1 stat z.1, hold.2.at fun o e => z.1.keep a o id e⟩, by obtain ⟨_, rfl⟩ := z.2.of_str; exact .str _ _⟩) fun _ _ f => f
end
theorem goE_pos : ∀ (r : List Nat) (i : Nat) (esc : Bool), goEnd esc r = false → ∀ x ∈ goE i esc r, (i : Int) ≤ x.1 ∧ x.1 < (i + r.length : Nat)
  | [], i, true, h, x, hx => by cases h
  | [], i, false, _, x, hx => by simp [goE] at hx
  | c :: r, i, true, h, x, hx => by
    simp only [goE, List.mem_cons] at hx
    rcases hx with rfl | hx
    · simp; omega
    · have := goE_pos r (i + 1) false h x hx
      simp at this ⊢; omega
  | c :: r, i, false, h, x, hx => by
    have h' : goEnd (c == 92) r = false := h
    simp only [goE] at hx
    split at hx
    · rename_i hc
      rw [show (c == 92) = true by simp [hc]] at h'
      have := goE_pos r (i + 1) true h' x hx
      simp at this ⊢; omega
    · rename_i hc
      rw [show (c == 92) = false by simp [hc]] at h'
      simp only [List.mem_cons] at hx
      rcases hx with rfl | hx
      · simp; omega
      · have := goE_pos r (i + 1) false h' x hx
        simp at this ⊢; omega
theorem goE_len : ∀ (r : List Nat) (i : Nat) (esc : Bool), goEnd esc r = false → (goE i esc r).length ≤ r.length
  | [], i, true, h => by cases h
  | [], i, false, _ => by simp [goE]
  | c :: r, i, true, h => by
    have := goE_len r (i + 1) false h
    simp [goE]; omega
  | c :: r, i, false, h => by
    have h' : goEnd (c == 92) r = false := h
    simp only [goE]
    split
    · rename_i hc
      rw [show (c == 92) = true by simp [hc]] at h'
      have := goE_len r (i + 1) true h'
      simp; omega
    · rename_i hc
      rw [show (c == 92) = false by simp [hc]] at h'
      have := goE_len r (i + 1) false h'
      simp; omega
noncomputable def dT : List D → Int × List Nat
  | [.int i, .str s] => (i, s.cps.toList)
  | _ => (0, [])
theorem dT_tD (x : Int × List Nat) : dT (tD x) = x := by simp [tD, dT, S]
theorem loopF_tD {β γ : Type} (step : β → Int × List Nat → β ⊕ γ) : ∀ (xs : List (Int × List Nat)) (b : β), loopF (fun b x => step b (dT x)) b (xs.map tD) = loopF step b xs
  | [], b => rfl
  | x :: xs, b => by
    simp only [List.map_cons, loopF, dT_tD]
    cases step b x with
    | inl b' => exact loopF_tD step xs b'
    | inr r => rfl
section
variable {hS : Heap} {prog : Program} {w : World} {n : Nat}
variable {W : Wd hS} {sc : Scope} {vars : List Str} {ρ ρ' : List (Option D)} {st st₁ st₂ : W.σ}
theorem EX.forG {β : Type} {target iter : Expr} {body rest : List Stmt} {pos : Pos} {o : Out W.σ} (tx : List Str) (xs : List (Int × List Nat)) (ρof : β → List (Option D)) (sof : β → W.σ) (ρ1 : β → Int × List Nat → List (Option D)) (step : β → Int × List Nat → β ⊕ (D × W.σ)) (b₀ : β) (Ok : β → List (Int × List Nat) → Prop)
    (hsrc : EVis prog w n W sc vars ρ st iter (xs.map tD) (sof b₀)) (hρ : Less (ρof b₀) ρ) (h0 : Ok b₀ xs) (htx : ∀ x ∈ tx, x ∈ vars)
    (hturn : ∀ b x post, Ok b (x :: post) → AS prog w W sc vars tx target (.tuple (tD x)) (ρof b) (ρ1 b x) ∧ (∀ b', step b x = .inl b' → Ok b' post ∧ ∃ ob ρ', EX prog w n W sc vars (ρ1 b x) (sof b) body ob ∧ Goes ob ρ' (sof b') ∧ Less (ρof b') ρ') ∧
      (∀ r, step b x = .inr r → EX prog w n W sc vars (ρ1 b x) (sof b) body (.ret r.1 r.2)))
    (hend : ∀ b, loopF step b₀ xs = .inl b → EX prog w n W sc vars (ρof b) (sof b) rest o) (hret : ∀ r, loopF step b₀ xs = .inr r → o = .ret r.1 r.2)
    (hfs : ∀ env x, foldedSetIterable iter env x = pure x := by intro _ _; rfl) :
    EX prog w n W sc vars ρ st (.For target iter body [] pos :: rest) o := by
  refine EX.forS tx (xs.map tD) ρof sof (fun b x => ρ1 b (dT x)) (fun b x => step b (dT x)) b₀ (fun b l => ∃ ys, l = ys.map tD ∧ Ok b ys) hsrc hρ ⟨xs, rfl, h0⟩ htx ?_ (by rw [loopF_tD]; exact hend) (by rw [loopF_tD]; exact hret) hfs
  rintro b x post ⟨ys, e, ok⟩
  cases ys with
  | nil => cases e
  | cons y ys =>
    rw [List.map_cons] at e
    injection e with e1 e2
    subst e1; subst e2
    obtain ⟨h1, h2, h3⟩ := hturn b y ys ok
    rw [dT_tD]
    refine ⟨h1, fun b' hb' => ?_, h3⟩
    obtain ⟨ok', r⟩ := h2 b' hb'
    exact ⟨⟨ys, rfl, ok'⟩, r⟩
/-- a loop whose body always goes on -/
theorem EX.foldG {β : Type} {target iter : Expr} {body rest : List Stmt} {pos : Pos} {o : Out W.σ} (tx : List Str) (xs : List (Int × List Nat)) (ρof : β → List (Option D)) (sof : β → W.σ) (ρ1 : β → Int × List Nat → List (Option D)) (f : β → Int × List Nat → β) (b₀ : β) (Ok : β → List (Int × List Nat) → Prop)
    (hsrc : EVis prog w n W sc vars ρ st iter (xs.map tD) (sof b₀)) (hρ : Less (ρof b₀) ρ) (h0 : Ok b₀ xs) (htx : ∀ x ∈ tx, x ∈ vars)
    (hturn : ∀ b x post, Ok b (x :: post) → AS prog w W sc vars tx target (.tuple (tD x)) (ρof b) (ρ1 b x) ∧ Ok (f b x) post ∧ ∃ ρ', EX prog w n W sc vars (ρ1 b x) (sof b) body (.next ρ' (sof (f b x))) ∧ Less (ρof (f b x)) ρ')
    (hend : ∀ b, b = xs.foldl f b₀ → EX prog w n W sc vars (ρof b) (sof b) rest o)
    (hfs : ∀ env x, foldedSetIterable iter env x = pure x := by intro _ _; rfl) :
    EX prog w n W sc vars ρ st (.For target iter body [] pos :: rest) o :=
  EX.forG tx xs ρof sof ρ1 (fun b x => .inl (f b x)) b₀ Ok hsrc hρ h0 htx (fun b x post ok => by
    obtain ⟨h1, h2, ρ', h3, h4⟩ := hturn b x post ok
    refine ⟨h1, fun b' e => ?_, fun r e => by cases e⟩
    cases e
    exact ⟨h2, _, ρ', h3, .inl rfl, h4⟩) (fun b e => by rw [loopF_inl] at e; cases e; exact hend _ rfl) (fun r e => by rw [loopF_inl] at e; cases e) hfs
end
section
variable {hS : Heap} {prog : Program} {w : World} {n : Nat}
variable {W : Wd hS} {sc : Scope} {vars : List Str} {ρ ρ' : List (Option D)} {st st₁ st₂ st₃ : W.σ}
theorem EV.methO {o : Expr} {name : Str} {apos pos : Pos} {args : List Expr} {d0 : D} {ds : List D} {d : D} {id : String} {pl : Env → Sem Bool} (hf : EV prog w n W sc vars ρ st o d0 st₁) (m : HasMeth d0 name id)
    (q : EVs prog w n W sc vars ρ st₁ args ds st₂) (ho : OpW W prog w n st₂ (Call (.builtin id)) (d0 :: ds) d st₃)
    (he : ∀ env, eval (.Call (.Attribute o name apos) args [] pos) env = (do
      let ov ← eval o env
      standAt apos.atName
      let (f, first) ← holding [ov] (getMethod ov name (pl env))
      callWith pos f first (backTo pos (starEach args env)) []) := by intro _; rfl) : EV prog w n W sc vars ρ st (.Call (.Attribute o name apos) args [] pos) d st₃ := fun A env U s r ft I => by
  refine MethodCall_ (pl := pl env) (wpAny_mono (hf A env U s r ft I) (fun v s1 q1 => ?_) fun _ _ x => x) (he env)
  refine m q1.2.2 ?_
  refine callWith_of (.builtin id) q r ft (I.step q1.1 q1.2.1) fun vs s2 x2 I2 r2 => ?_
  refine wpAny_mono (ho A U s2 (v :: vs) r I2.static I2.mutU I2.low I2.hold (.cons (q1.2.2.ext x2 I.mutU) r2)) (fun v' s3 q3 => ?_) fun _ _ x => x
  exact ⟨(q1.1.trans x2).trans q3.1, q3.2.1, q3.2.2⟩
end
end
section
noncomputable def ifB : Stmt → List Stmt
  | .If _ b _ _ => b
  | _ => []
noncomputable def exE : Stmt → Expr
  | .Expr e _ => e
  | _ => .Constant .none 0 default
structure Sp where
  start : Int
  op : Option Int
  res : List (List Nat)
noncomputable def oD : Option Int → D
  | none => .none
  | some i => .int i
noncomputable def spStep (p : List Nat) (b : Sp) (x : Int × List Nat) : Sp :=
  if x.2 = [34] then
    match b.op with
    | none => { b with op := some x.1 }
    | some q => ⟨x.1 + 1, none, if b.start = q then b.res else b.res ++ [(p.drop b.start.toNat).take (q.toNat - b.start.toNat)]⟩
  else b
noncomputable def spEnd (p : List Nat) (b : Sp) : List (List Nat) := if b.start < p.length then b.res ++ [p.drop b.start.toNat] else b.res
noncomputable def stripF (p : List Nat) : List Nat := if hasS p [34] then (spEnd p ((goE 0 false p).foldl (spStep p) ⟨0, none, []⟩)).flatten else p
noncomputable abbrev svS : List Str := ["addr", "start", "open_pos", "result", "pos", "ch"]
section
variable {hS : Heap} {prog : Program} {w : World} {m : Nat} {W : Wd hS} {st : W.σ}
theorem sp_cases {p : List Nat} {b : Sp} {x : Int × List Nat} (h : x.2 = [34]) : spStep p b x = match b.op with
    | none => { b with op := some x.1 }
    | some q => ⟨x.1 + 1, none, if b.start = q then b.res else b.res ++ [(p.drop b.start.toNat).take (q.toNat - b.start.toNat)]⟩ := by unfold spStep; rw [if_pos h]
noncomputable abbrev spR (p : List Nat) (a : Addr) (b : Sp) : List (Option D) := [some (.str (S p)), some (.int b.start), some (oD b.op), some (.raw (.ref a)), none, none]
noncomputable abbrev spR1 (p : List Nat) (a : Addr) (b : Sp) (x : Int × List Nat) : List (Option D) := [some (.str (S p)), some (.int b.start), some (oD b.op), some (.raw (.ref a)), some (.int x.1), some (.str (S x.2))]
structure SpOk (p : List Nat) (b : Sp) (post : List (Int × List Nat)) : Prop where
  s0 : 0 ≤ b.start
  s1 : b.start ≤ p.length
  o0 : ∀ q, b.op = some q → 0 ≤ q ∧ q < p.length
  all : ∀ x ∈ post, 0 ≤ x.1 ∧ x.1 < p.length
  len : b.res.length + post.length ≤ p.length
  sum : (b.res.map (·.length)).sum ≤ b.res.length * p.length
theorem SpOk.step {p : List Nat} {b : Sp} {x : Int × List Nat} {post : List (Int × List Nat)} (h : SpOk p b (x :: post)) : SpOk p (spStep p b x) post := by
  have hx := h.all x (by simp)
  have hp : ∀ y ∈ post, 0 ≤ y.1 ∧ y.1 < p.length := fun y hy => h.all y (by simp [hy])
  have hl := h.len
  simp only [List.length_cons] at hl
  by_cases hc : x.2 = [34]
  · rw [sp_cases hc]
    cases ho : b.op with
    | none => exact ⟨h.s0, h.s1, (fun q e => by cases e; exact hx), hp, by show b.res.length + _ ≤ _; omega, h.sum⟩
    | some q =>
      refine ⟨by show 0 ≤ x.1 + 1; omega, by show x.1 + 1 ≤ _; omega, (fun q e => by cases e), hp, ?_, ?_⟩
      · show (if b.start = q then b.res else b.res ++ [(p.drop b.start.toNat).take (q.toNat - b.start.toNat)]).length + _ ≤ _
        split
        · omega
        · simp; omega
      · show ((if b.start = q then b.res else b.res ++ [(p.drop b.start.toNat).take (q.toNat - b.start.toNat)]).map (·.length)).sum ≤ (if b.start = q then b.res else b.res ++ [(p.drop b.start.toNat).take (q.toNat - b.start.toNat)]).length * p.length
        split
        · exact h.sum
        · simp only [List.map_append, List.sum_append, List.length_append, Nat.add_mul, List.map_cons, List.map_nil, List.sum_cons, List.sum_nil, List.length_cons, List.length_nil]
          have := h.sum
          have h2 : ((p.drop b.start.toNat).take (q.toNat - b.start.toNat)).length ≤ p.length := by simp; omega
          omega
  · have : spStep p b x = b := by unfold spStep; rw [if_neg hc]
    rw [this]
    exact ⟨h.s0, h.s1, h.o0, hp, by omega, h.sum⟩
noncomputable abbrev stF : Stmt := nthS (fdBody (top 5)) 4
theorem w_strip_turn {p : List Nat} {a : Addr} {h1 : hS.get? a = none} {h2 : ¬ W.foot a} {b : Sp} {x : Int × List Nat} {post : List (Int × List Nat)} (B : Base hS) (hp : p.length ≤ 500) (ok : SpOk p b (x :: post)) :
    ∃ ρ', EX prog w (m + 8) (W.own a h1 h2) (fdScope (top 5)) svS (spR1 p a b x) (st, b.res.map fun x => .str (S x)) (forB stF) (.next ρ' (st, (spStep p b x).res.map fun x => .str (S x))) ∧ Less (spR p a (spStep p b x)) ρ' := by
  have hx := ok.all x (by simp)
  have hb0 := ok.s0
  have hb1 := ok.s1
  by_cases hc : x.2 = [34]
  · rw [sp_cases hc]
    have hce : (x.2 == [34]) = true := by simp [hc]
    cases ho : b.op with
    | none =>
      refine ⟨[some (.str (S p)), some (.int b.start), some (.int x.1), some (.raw (.ref a)), some (.int x.1), some (.str (S x.2))], ?_, .same (.same (.same (.same (.off (.off .nil)))))⟩
      refine aIf (b := x.2 == [34]) (tC (aN (.there (.there (.there (.there (.there .here))))) ⟨by decide +kernel⟩) (EV.str [34]) op_seq ⟨rfl⟩) (fun _ => ?_) (fun h => by rw [hce] at h; cases h)
      refine aIf (b := true) (tC (aN (.there (.there .here)) ⟨by decide +kernel⟩) EV.noneC (by rw [ho]; exact op_isNoneNone) ⟨rfl⟩) (fun _ => ?_) (fun h => by cases h)
      exact aSet (aN (.there (.there (.there (.there .here)))) ⟨by decide +kernel⟩) (.there (.there .here)) EX.nil ⟨by decide +kernel⟩ ⟨fun _ _ => rfl⟩
    | some q =>
      have hq := ok.o0 q ho
      have sl : EV prog w (m + 8) (W.own a h1 h2) (fdScope (top 5)) svS (spR1 p a b x) (st, b.res.map fun x => .str (S x)) (argE (exE (nthS (ifB (nthS (ifE (nthS (ifB (nthS (forB stF) 0)) 0)) 0)) 0))) (.str (S ((p.drop b.start.toNat).take (q.toNat - b.start.toNat)))) (st, b.res.map fun x => .str (S x)) :=
        aSsl2 (aN .here ⟨by decide +kernel⟩) (aN (.there .here) ⟨by decide +kernel⟩) (aN (.there (.there (by rw [ho]; exact .here))) ⟨by decide +kernel⟩) ⟨⟨hb0, by omega, by omega⟩, hq.1, by omega⟩
      refine ⟨[some (.str (S p)), some (.int (x.1 + 1)), some .none, some (.raw (.ref a)), some (.int x.1), some (.str (S x.2))], ?_, .same (.same (.same (.same (.off (.off .nil)))))⟩
      refine aIf (b := x.2 == [34]) (tC (aN (.there (.there (.there (.there (.there .here))))) ⟨by decide +kernel⟩) (EV.str [34]) op_seq ⟨rfl⟩) (fun _ => ?_) (fun h => by rw [hce] at h; cases h)
      refine aIf (b := false) (tC (aN (.there (.there .here)) ⟨by decide +kernel⟩) EV.noneC (by rw [ho]; exact op_isIntNone) ⟨rfl⟩) (fun h => by cases h) (fun _ => ?_)
      have fin : ∀ l : List (List Nat), EX prog w (m + 8) (W.own a h1 h2) (fdScope (top 5)) svS (spR1 p a b x) (st, l.map fun x => .str (S x)) [nthS (ifE (nthS (ifB (nthS (forB stF) 0)) 0)) 1, nthS (ifE (nthS (ifB (nthS (forB stF) 0)) 0)) 2] (.next [some (.str (S p)), some (.int (x.1 + 1)), some .none, some (.raw (.ref a)), some (.int x.1), some (.str (S x.2))] (st, l.map fun x => .str (S x))) := fun l =>
        aSet (aBin (aN (.there (.there (.there (.there .here)))) ⟨by decide +kernel⟩) (EV.int 1) op_add) (.there .here) (aSet EV.noneC (.there (.there .here)) EX.nil ⟨by decide +kernel⟩ ⟨fun _ _ => rfl⟩) ⟨by decide +kernel⟩ ⟨fun _ _ => rfl⟩
      refine aIf (b := b.start != q) (tC (aN (.there .here) ⟨by decide +kernel⟩) (aN (.there (.there .here)) ⟨by decide +kernel⟩) (by rw [ho]; exact op_ne) ⟨rfl⟩) (fun h => ?_) (fun h => ?_)
      · have hne : b.start ≠ q := by simpa using h
        simp only [if_neg hne]
        refine EX.expr (d := .none) (st₁ := (st, (b.res ++ [(p.drop b.start.toNat).take (q.toNat - b.start.toNat)]).map fun x => .str (S x))) ?_ (fin _)
        rw [List.map_append]
        exact EV.methW (f := .builtin "list.append") (aN (.there (.there (.there .here))) ⟨by decide +kernel⟩) (ownMeth PySem.F.slot_list_append (by first | rfl | kernel_rfl)) ⟨_, rfl⟩ (.builtin _) (.cons sl .nil fun _ => rfl) (ownAppend rfl (by simp; have := ok.len; omega))
      · have he : b.start = q := by simpa using h
        simp only [if_pos he]
        exact fin _
  · have : spStep p b x = b := by unfold spStep; rw [if_neg hc]
    rw [this]
    have hce : (x.2 == [34]) = false := by simp [hc]
    refine ⟨spR1 p a b x, ?_, .same (.same (.same (.same (.off (.off .nil)))))⟩
    refine aIf (b := x.2 == [34]) (tC (aN (.there (.there (.there (.there (.there .here))))) ⟨by decide +kernel⟩) (EV.str [34]) op_seq ⟨rfl⟩) (fun h => by rw [hce] at h; cases h) (fun _ => EX.nil)
theorem spOk_fold {p : List Nat} : ∀ (xs : List (Int × List Nat)) (b : Sp), SpOk p b xs → SpOk p (xs.foldl (spStep p) b) []
  | [], _, h => h
  | _ :: xs, _, h => spOk_fold xs _ h.step
theorem spEnd_sum {p : List Nat} {b : Sp} (h : SpOk p b []) (hp : p.length ≤ 500) : ((spEnd p b).map (·.length)).sum + (spEnd p b).length * 64 ≤ 1000000 ∧ (spEnd p b).length ≤ 501 := by
  have h1 := h.len
  have h2 := h.sum
  simp only [List.length_nil, Nat.add_zero] at h1
  have h3 : b.res.length * p.length ≤ 500 * 500 := Nat.mul_le_mul (by omega) hp
  unfold spEnd
  split
  · simp only [List.map_append, List.sum_append, List.length_append, List.map_cons, List.map_nil, List.sum_cons, List.sum_nil, List.length_cons, List.length_nil, List.length_drop]
    omega
  · omega
set_option maxHeartbeats 2000000 in
theorem w_strip {p : List Nat} (B : Base hS) (hp : p.length ≤ 500) (hE : goEnd false p = false) :
    EX prog w (m + 8) W (fdScope (top 5)) svS [some (.str (S p)), none, none, none, none, none] st (fdBody (top 5)) (.ret (.str (S (stripF p))) st) := by
  refine aIf (b := !hasS p [34]) (st₁ := st) (tC (EV.str [34]) (aN .here ⟨by decide +kernel⟩) op_snotin ⟨rfl⟩) (fun hc => ?_) (fun hc => ?_)
  · refine aRet (aN .here ⟨by decide +kernel⟩) ?_
    have : hasS p [34] = false := by simpa using hc
    unfold stripF; rw [this]; rfl
  have hh : hasS p [34] = true := by simpa using hc
  refine aSet (d := .int 0) (st₁ := st) (EV.int 0) (.there .here) ?_ ⟨by decide +kernel⟩ ⟨fun _ _ => rfl⟩
  refine aSet (d := .none) (st₁ := st) EV.noneC (.there (.there .here)) ?_ ⟨by decide +kernel⟩ ⟨fun _ _ => rfl⟩
  refine EX.own (st₁ := st) (ds := []) (fun a => spR p a ⟨0, none, []⟩) (EVn.display (ds := []) .nil rfl (by simp)) (fun a => .there (.there (.there .here))) (fun a h1 h2 => ⟨.ret (.str (S (stripF p))) (st, (spEnd p ((goE 0 false p).foldl (spStep p) ⟨0, none, []⟩)).map fun x => .str (S x)), ?_, .same⟩)
  have ok0 : SpOk p ⟨0, none, []⟩ (goE 0 false p) := ⟨Int.le_refl 0, by simp, (fun q e => by cases e), fun x hx => by have := goE_pos p 0 false hE x hx; simp at this; exact ⟨this.1, by omega⟩, by have := goE_len p 0 false hE; simpa using this, by simp⟩
  refine EX.foldG ["pos", "ch"] (goE 0 false p) (spR p a) (fun b => (st, b.res.map fun x => .str (S x))) (spR1 p a) (spStep p) ⟨0, none, []⟩ (SpOk p) ?src (.same (.same (.same (.same (.same (.same .nil)))))) ok0 (by decide +kernel) (fun b x post ok => ⟨?as, ok.step, w_strip_turn B hp ok⟩) (fun b hb => ?fin)
  case src => exact EVis.gen B.lim B.enumerate B.esc.at_ (.glob B.esc.glb (by decide +kernel)) (.cons (aN .here ⟨by decide +kernel⟩) .nil fun _ => rfl) hE
  case as => exact AS.tup ["pos", "ch"] [_, _] (.cons (.there (.there (.there (.there .here)))) (.cons (.there (.there (.there (.there (.there .here))))) .nil))
  case fin =>
    have okb : SpOk p b [] := hb ▸ spOk_fold _ _ ok0
    rw [← hb]
    obtain ⟨hsum, hlen⟩ := spEnd_sum okb hp
    have hb0 := okb.s0
    have hb1 := okb.s1
    have hS' : stripF p = (spEnd p b).flatten := by unfold stripF; rw [hh, hb]; rfl
    have fin : EX prog w (m + 8) (W.own a h1 h2) (fdScope (top 5)) svS (spR p a b) (st, (spEnd p b).map fun x => .str (S x)) [nthS (fdBody (top 5)) 6] (.ret (.str (S (stripF p))) (st, (spEnd p b).map fun x => .str (S x))) := by
      rw [hS']
      exact aRet (EV.methO (EV.str []) meth_join (.cons (aN (.there (.there (.there .here))) ⟨by decide +kernel⟩) .nil fun _ => rfl) (ownJoin hsum)) rfl
    refine aIf (b := decide (b.start < p.length)) (st₁ := (st, b.res.map fun x => .str (S x))) (tC (aN (.there .here) ⟨by decide +kernel⟩) ?len op_lt ⟨rfl⟩) (fun h => ?_) (fun h => ?_)
    case len => exact EV.call (aB B.len ⟨by decide +kernel⟩) (.builtin _) (.cons (aN .here ⟨by decide +kernel⟩) .nil fun _ => rfl) (op_slen (by omega))
    · have hlt : b.start < p.length := by simpa using h
      have e : spEnd p b = b.res ++ [p.drop b.start.toNat] := by unfold spEnd; rw [if_pos hlt]
      refine EX.expr (d := .none) (st₁ := (st, (spEnd p b).map fun x => .str (S x))) ?_ fin
      rw [e, List.map_append]
      exact EV.methW (f := .builtin "list.append") (aN (.there (.there (.there .here))) ⟨by decide +kernel⟩) (ownMeth PySem.F.slot_list_append (by first | rfl | kernel_rfl)) ⟨_, rfl⟩ (.builtin _) (.cons (aSsl1 (aN .here ⟨by decide +kernel⟩) (aN (.there .here) ⟨by decide +kernel⟩) ⟨hb0, by omega, by omega⟩) .nil fun _ => rfl) (ownAppend rfl (by simp; have := okb.len; omega))
    · have hlt : ¬ b.start < p.length := by simpa using h
      have e : spEnd p b = b.res := by unfold spEnd; rw [if_neg hlt]
      rw [e] at fin ⊢
      exact fin
theorem c_strip {p : List Nat} (B : Base hS) (hp : p.length ≤ 500) (hE : goEnd false p = false) : Op hS prog w (m + 9) (Call (.ref 42)) [.str (S p)] (.str (S (stripF p))) :=
  fun_okL 5 B.lim B.strip.at_ rfl rfl (by decide +kernel) (w_strip B hp hE)
end
end
section
noncomputable def chkStep {γ : Type} (r : γ) (o : Int) (x : Int × List Nat) : Int ⊕ γ := if x.2 = [40] then .inl (o + 1) else if x.2 = [41] then (if o - 1 < 0 then .inr r else .inl (o - 1)) else .inl o
theorem chk_loop {γ : Type} (r : γ) : ∀ (xs : List (Int × List Nat)) (o : Int), loopF (chkStep r) o xs = match loopF (chkStep ()) o xs with | .inl o => .inl o | .inr _ => .inr r
  | [], o => rfl
  | x :: xs, o => by
    have key : chkStep r o x = match chkStep () o x with | .inl a => .inl a | .inr _ => .inr r := by
      unfold chkStep
      by_cases h1 : x.2 = [40]
      · simp [h1]
      · by_cases h2 : x.2 = [41]
        · by_cases h3 : o - 1 < 0
          · simp [h2, h3]
          · simp [h2, h3]
        · simp [h1, h2]
    simp only [loopF, key]
    cases chkStep () o x with
    | inl a => exact chk_loop r xs a
    | inr _ => rfl
noncomputable def checkF (p : List Nat) : Bool := match loopF (chkStep ()) 0 (goE 0 false (stripF p)) with | .inl o => o == 0 | .inr _ => false
noncomputable abbrev svC : List Str := ["addr", "opens", "pos", "ch"]
section
variable {hS : Heap} {prog : Program} {w : World} {m : Nat} {W : Wd hS} {st : W.σ}
set_option maxHeartbeats 2000000 in
theorem w_check {p : List Nat} (B : Base hS) (hp : p.length ≤ 500) (hE : goEnd false p = false) (hE' : goEnd false (stripF p) = false) :
    EX prog w (m + 9) W (fdScope (top 6)) svC [some (.str (S p)), none, none, none] st (fdBody (top 6)) (.ret (.bool (checkF p)) st) := by
  refine aSet (d := .str (S (stripF p))) (st₁ := st) (EV.call (aG B.strip.glb ⟨by decide +kernel⟩) B.strip.at_.callee (.cons (aN .here ⟨by decide +kernel⟩) .nil fun _ => rfl) (c_strip B hp hE)) .here ?_ ⟨by decide +kernel⟩ ⟨fun _ _ => rfl⟩
  refine aSet (d := .int 0) (st₁ := st) (EV.int 0) (.there .here) ?_ ⟨by decide +kernel⟩ ⟨fun _ _ => rfl⟩
  refine EX.forG ["pos", "ch"] (goE 0 false (stripF p)) (fun o => [some (.str (S (stripF p))), some (.int o), none, none]) (fun _ => st) (fun o x => [some (.str (S (stripF p))), some (.int o), some (.int x.1), some (.str (S x.2))]) (chkStep (.bool false, st)) 0 (fun _ _ => True) ?src (.same (.same (.same (.same .nil)))) trivial (by decide +kernel) (fun o x post _ => ⟨?as, fun b' hb' => ⟨trivial, ?turn⟩, fun r hr => ?out⟩) (fun o ho => ?fin) (fun r hr => ?ret)
  case src => exact EVis.gen (m := m + 1) B.lim B.enumerate B.esc.at_ (.glob B.esc.glb (by decide +kernel)) (.cons (aN .here ⟨by decide +kernel⟩) .nil fun _ => rfl) hE'
  case as => exact AS.tup ["pos", "ch"] [_, _] (.cons (.there (.there .here)) (.cons (.there (.there (.there .here))) .nil))
  case turn =>
    refine ⟨.next [some (.str (S (stripF p))), some (.int b'), some (.int x.1), some (.str (S x.2))] st, _, ?_, .inl rfl, .same (.same (.off (.off .nil)))⟩

    unfold chkStep at hb'
    refine aIf (b := x.2 == [40]) (st₁ := st) (tC (aN (.there (.there (.there .here))) ⟨by decide +kernel⟩) (EV.str [40]) op_seq ⟨rfl⟩) (fun h => ?_) (fun h => ?_)
    · rw [if_pos (by simpa using h)] at hb'
      cases hb'
      exact aAug (.there .here) (EV.int 1) op_iadd (.there .here) EX.nil ⟨by decide +kernel⟩
    · rw [if_neg (by simpa using h)] at hb'
      refine aIf (b := x.2 == [41]) (st₁ := st) (tC (aN (.there (.there (.there .here))) ⟨by decide +kernel⟩) (EV.str [41]) op_seq ⟨rfl⟩) (fun h => ?_) (fun h => ?_)
      · rw [if_pos (by simpa using h)] at hb'
        refine aAug (d' := .int (o - 1)) (.there .here) (EV.int 1) op_isub (.there .here) ?_ ⟨by decide +kernel⟩
        split at hb'
        · cases hb'
        · rename_i hn
          cases hb'
          exact aIf (b := decide (o - 1 < 0)) (st₁ := st) (tC (aN (.there .here) ⟨by decide +kernel⟩) (EV.int 0) op_lt ⟨rfl⟩) (fun h => absurd (by simpa using h) hn) (fun _ => EX.nil)
      · rw [if_neg (by simpa using h)] at hb'
        cases hb'
        exact EX.nil
  case out =>
    unfold chkStep at hr
    refine aIf (b := x.2 == [40]) (st₁ := st) (tC (aN (.there (.there (.there .here))) ⟨by decide +kernel⟩) (EV.str [40]) op_seq ⟨rfl⟩) (fun h => ?_) (fun h => ?_)
    · rw [if_pos (by simpa using h)] at hr; cases hr
    · rw [if_neg (by simpa using h)] at hr
      refine aIf (b := x.2 == [41]) (st₁ := st) (tC (aN (.there (.there (.there .here))) ⟨by decide +kernel⟩) (EV.str [41]) op_seq ⟨rfl⟩) (fun h => ?_) (fun h => ?_)
      · rw [if_pos (by simpa using h)] at hr
        refine aAug (d' := .int (o - 1)) (.there .here) (EV.int 1) op_isub (.there .here) ?_ ⟨by decide +kernel⟩
        split at hr
        · rename_i hn
          cases hr
          exact aIf (b := decide (o - 1 < 0)) (st₁ := st) (tC (aN (.there .here) ⟨by decide +kernel⟩) (EV.int 0) op_lt ⟨rfl⟩) (fun _ => aRet (EV.boolC false) rfl) (fun h => absurd hn (by simpa using h))
        · cases hr
      · rw [if_neg (by simpa using h)] at hr; cases hr
  case fin =>
    rw [chk_loop] at ho
    have : checkF p = (o == 0) := by
      unfold checkF
      cases h : loopF (chkStep ()) 0 (goE 0 false (stripF p)) with
      | inl o' => rw [h] at ho; cases ho; rfl
      | inr r => rw [h] at ho; cases ho
    rw [this]
    exact aRet (aC (aN (.there .here) ⟨by decide +kernel⟩) (EV.int 0) op_eq ⟨rfl⟩) rfl
  case ret =>
    rw [chk_loop] at hr
    unfold checkF
    cases h : loopF (chkStep ()) 0 (goE 0 false (stripF p)) with
    | inl o' => rw [h] at hr; cases hr
    | inr r' => rw [h] at hr; cases hr; rfl
theorem c_check {p : List Nat} (B : Base hS) (hp : p.length ≤ 500) (hE : goEnd false p = false) (hE' : goEnd false (stripF p) = false) : Op hS prog w (m + 10) (Call (.ref 49)) [.str (S p)] (.bool (checkF p)) :=
  fun_okL 3 B.lim B.check.at_ rfl rfl (by decide +kernel) (w_check B hp hE hE')
end
end
section
noncomputable def augE : Stmt → Expr
  | .AugAssign _ _ e _ => e
  | _ => .Constant .none 0 default
noncomputable def binL : Expr → Expr
  | .BinOp l _ _ _ => l
  | _ => .Constant .none 0 default
noncomputable def binR : Expr → Expr
  | .BinOp _ _ r _ => r
  | _ => .Constant .none 0 default
noncomputable def subE : Expr → Expr
  | .Subscript v _ _ => v
  | _ => .Constant .none 0 default
noncomputable def lstE : Expr → Nat → Expr
  | .List l _, k => l.getD k (.Constant .none 0 default)
  | _, _ => .Constant .none 0 default
noncomputable def atF (l : List Int) (k : Int) : Int := l.getD (k % 5).toNat 0
noncomputable def tkP (ring coming : List Int) (k : Int) : List Nat :=
  (if atF coming k = 1 then [40] else []) ++ (if atF ring k = 0 then [41] else if k % 2 = 0 then [34, 92, 34, 40, 34] else [92, 41])
noncomputable def tkStep {γ : Type} (r : γ) (ring coming : List Int) (t : List Nat) (k : Int) : List Nat ⊕ γ :=
  if atF ring k = 1 then (if (atF coming k == 1 || (checkF t != true)) = true then .inr r else .inl []) else .inl (t ++ tkP ring coming k)
theorem tk_loop {γ : Type} (r : γ) (ring coming : List Int) : ∀ (xs : List Int) (t : List Nat), loopF (tkStep r ring coming) t xs = match loopF (tkStep () ring coming) t xs with | .inl o => .inl o | .inr _ => .inr r
  | [], o => rfl
  | x :: xs, o => by
    have key : tkStep r ring coming o x = match tkStep () ring coming o x with | .inl a => .inl a | .inr _ => .inr r := by
      unfold tkStep
      by_cases h1 : atF ring x = 1
      · rw [if_pos h1, if_pos h1]
        split <;> rfl
      · rw [if_neg h1, if_neg h1]
    simp only [loopF, key]
    cases tkStep () ring coming o x with
    | inl a => exact tk_loop r ring coming xs a
    | inr _ => rfl
noncomputable def takesF (ring coming : List Int) : Bool := match loopF (tkStep () ring coming) [] (zs ((ring.idxOf 1 : Nat) + 1) 5) with | .inl _ => true | .inr _ => false
noncomputable def chkOk1 (t : List Nat) : Bool := decide (t.length ≤ 500) && !goEnd false t && !goEnd false (stripF t)
noncomputable def tkOk (ring coming : List Int) : List Nat → List Int → Bool
  | _, [] => true
  | t, k :: ks => if atF ring k = 1 then (atF coming k == 1 || (chkOk1 t && (!checkF t || tkOk ring coming [] ks))) else tkOk ring coming (t ++ tkP ring coming k) ks
noncomputable def takesOk (ring coming : List Int) : Bool := tkOk ring coming [] (zs ((ring.idxOf 1 : Nat) + 1) 5)
noncomputable abbrev svT : List Str := ["ring", "coming", "start", "text", "k"]
section
variable {hS : Heap} {prog : Program} {w : World} {m : Nat} {W : Wd hS} {st : W.σ}
theorem len_tkP (ring coming : List Int) (k : Int) : (tkP ring coming k).length ≤ 6 := by
  unfold tkP
  split <;> split <;> (try split) <;> simp
noncomputable abbrev tkR (ring coming : List Int) (t : List Nat) (o : Option D) : List (Option D) := [some (dI ring), some (dI coming), some (.int (ring.idxOf 1 : Nat)), some (.str (S t)), o]
structure TkA (ring coming : List Int) : Prop where
  l1 : ring.length = 5
  l2 : coming.length = 5
  r : ∀ x ∈ ring, 0 ≤ x ∧ x ≤ 2
  c : ∀ x ∈ coming, 0 ≤ x ∧ x ≤ 1
theorem ev_ring {ring coming : List Int} {t : List Nat} {k : Int} (a : TkA ring coming) (hk : 0 ≤ k) {p1 p2 p3 p4 p5 : Pos} {kk : Nat} : EV prog w (m + 10) W (fdScope (top 18)) svT (tkR ring coming t (some (.int k))) st (.Subscript (.Name "ring" p1) (.BinOp (.Name "k" p2) .Mod (.Constant (.int 5) kk p3) p4) p5) (.int (atF ring k)) st :=
  aItem (aN .here ⟨by decide +kernel⟩) (aBin (aN (.there (.there (.there (.there .here)))) ⟨by decide +kernel⟩) (EV.int 5) (oMod (by decide))) (oLitem (itemI (l := ring) (k := k % 5) (by omega) (by omega) (by have := a.l1; omega)) ⟨by intro _ _; rfl⟩)
theorem ev_coming {ring coming : List Int} {t : List Nat} {k : Int} (a : TkA ring coming) (hk : 0 ≤ k) {p1 p2 p3 p4 p5 : Pos} {kk : Nat} : EV prog w (m + 10) W (fdScope (top 18)) svT (tkR ring coming t (some (.int k))) st (.Subscript (.Name "coming" p1) (.BinOp (.Name "k" p2) .Mod (.Constant (.int 5) kk p3) p4) p5) (.int (atF coming k)) st :=
  aItem (aN (.there .here) ⟨by decide +kernel⟩) (aBin (aN (.there (.there (.there (.there .here)))) ⟨by decide +kernel⟩) (EV.int 5) (oMod (by decide))) (oLitem (itemI (l := coming) (k := k % 5) (by omega) (by omega) (by have := a.l2; omega)) ⟨by intro _ _; rfl⟩)
noncomputable abbrev tkF : Stmt := nthS (fdBody (top 18)) 2
theorem tk_piece {ring coming : List Int} {t : List Nat} {k : Int} (a : TkA ring coming) (hk : 0 ≤ k) (hr : atF ring k ≠ 1) (ht : t.length ≤ 1000) :
    EX prog w (m + 10) W (fdScope (top 18)) svT (tkR ring coming t (some (.int k))) st (ifE (nthS (forB tkF) 0)) (.next (tkR ring coming (t ++ tkP ring coming k) (some (.int k))) st) := by
  have hc2 : atF coming k = 0 ∨ atF coming k = 1 := by
    have := getD_all (i := (k % 5).toNat) a.c ⟨by decide, by decide⟩
    unfold atF; omega
  have hr2 : atF ring k = 0 ∨ atF ring k = 2 := by
    have := getD_all (i := (k % 5).toNat) a.r ⟨by decide, by decide⟩
    unfold atF at hr ⊢; omega
  have hp2 : k % 2 = 0 ∨ k % 2 = 1 := by omega
  have hlen := len_tkP ring coming k
  refine aAug (d := .str (S (tkP ring coming k))) (.there (.there (.there .here))) ?e (op_isadd (by omega)) (.there (.there (.there .here))) EX.nil ⟨by decide +kernel⟩
  have c1 : EV prog w (m + 10) W (fdScope (top 18)) svT (tkR ring coming t (some (.int k))) st (binL (augE (nthS (ifE (nthS (forB tkF) 0)) 0))) (.str (S (if atF coming k = 1 then [40] else []))) st := by
    rcases hc2 with h | h
    · rw [if_neg (by rw [h]; decide)]
      exact aItem (aL (aS (EV.str []) (aS (EV.str [40]) .nil ⟨fun _ => rfl⟩) ⟨fun _ => rfl⟩) ⟨by decide +kernel⟩) (.eq (ev_coming a hk) (by rw [h])) (oLitem ⟨by decide, by decide, rfl⟩ ⟨by intro _ _; rfl⟩)
    · rw [if_pos h]
      exact aItem (aL (aS (EV.str []) (aS (EV.str [40]) .nil ⟨fun _ => rfl⟩) ⟨fun _ => rfl⟩) ⟨by decide +kernel⟩) (.eq (ev_coming a hk) (by rw [h])) (oLitem ⟨by decide, by decide, rfl⟩ ⟨by intro _ _; rfl⟩)
  have c3 : EV prog w (m + 10) W (fdScope (top 18)) svT (tkR ring coming t (some (.int k))) st (lstE (subE (binR (augE (nthS (ifE (nthS (forB tkF) 0)) 0)))) 2) (.str (S (if k % 2 = 0 then [34, 92, 34, 40, 34] else [92, 41]))) st := by
    rcases hp2 with h | h
    · rw [if_pos h]
      exact aItem (aL (aS (EV.str [34, 92, 34, 40, 34]) (aS (EV.str [92, 41]) .nil ⟨fun _ => rfl⟩) ⟨fun _ => rfl⟩) ⟨by decide +kernel⟩) (.eq (d := .int (k % 2)) (aBin (aN (.there (.there (.there (.there .here)))) ⟨by decide +kernel⟩) (EV.int 2) (oMod (by decide))) (by rw [h])) (oLitem ⟨by decide, by decide, rfl⟩ ⟨by intro _ _; rfl⟩)
    · rw [if_neg (by rw [h]; decide)]
      exact aItem (aL (aS (EV.str [34, 92, 34, 40, 34]) (aS (EV.str [92, 41]) .nil ⟨fun _ => rfl⟩) ⟨fun _ => rfl⟩) ⟨by decide +kernel⟩) (.eq (d := .int (k % 2)) (aBin (aN (.there (.there (.there (.there .here)))) ⟨by decide +kernel⟩) (EV.int 2) (oMod (by decide))) (by rw [h])) (oLitem ⟨by decide, by decide, rfl⟩ ⟨by intro _ _; rfl⟩)
  have c2 : EV prog w (m + 10) W (fdScope (top 18)) svT (tkR ring coming t (some (.int k))) st (binR (augE (nthS (ifE (nthS (forB tkF) 0)) 0))) (.str (S (if atF ring k = 0 then [41] else if k % 2 = 0 then [34, 92, 34, 40, 34] else [92, 41]))) st := by
    rcases hr2 with h | h
    · rw [if_pos h]
      exact aItem (aL (aS (EV.str [41]) (aS (EV.str []) (aS c3 .nil ⟨fun _ => rfl⟩) ⟨fun _ => rfl⟩) ⟨fun _ => rfl⟩) ⟨by decide +kernel⟩) (.eq (ev_ring a hk) (by rw [h])) (oLitem ⟨by decide, by decide, rfl⟩ ⟨by intro _ _; rfl⟩)
    · rw [if_neg (by rw [h]; decide)]
      exact aItem (aL (aS (EV.str [41]) (aS (EV.str []) (aS c3 .nil ⟨fun _ => rfl⟩) ⟨fun _ => rfl⟩) ⟨fun _ => rfl⟩) ⟨by decide +kernel⟩) (.eq (ev_ring a hk) (by rw [h])) (oLitem ⟨by decide, by decide, rfl⟩ ⟨by intro _ _; rfl⟩)
  refine aBin c1 c2 (op_sadd ?_)
  split <;> split <;> (try split) <;> simp
set_option maxHeartbeats 2000000 in
theorem w_takes {ring coming : List Int} (B : Base hS) (a : TkA ring coming) (h1 : (1 : Int) ∈ ring) (hlay : PyData.layable0 (.list (ring.map PyData.int)) = true) (ok : takesOk ring coming = true) :
    EX prog w (m + 11) W (fdScope (top 18)) svT [some (dI ring), some (dI coming), none, none, none] st (fdBody (top 18)) (.ret (.bool (takesF ring coming)) st) := by
  have hidx : ring.idxOf 1 < 5 := by have := List.idxOf_lt_length_iff.mpr h1; have := a.l1; omega
  refine aSet (d := .int (ring.idxOf 1 : Nat)) (st₁ := st) (aMeth (aN .here ⟨by decide +kernel⟩) meth_index (aS (EV.int 1) .nil ⟨fun _ => rfl⟩) (op_index h1 hlay) ⟨fun _ => rfl⟩) (.there (.there .here)) ?_ ⟨by decide +kernel⟩ ⟨fun _ _ => rfl⟩
  refine aSet (d := .str (S [])) (st₁ := st) (EV.str []) (.there (.there (.there .here))) ?_ ⟨by decide +kernel⟩ ⟨fun _ _ => rfl⟩
  refine EX.for_ ["k"] (zs ((ring.idxOf 1 : Nat) + 1) 5) D.int (fun t => tkR ring coming t none) (fun _ => st) (fun t k => tkR ring coming t (some (.int k))) (tkStep (.bool false, st) ring coming) []
    (fun t ks => tkOk ring coming t ks = true ∧ t.length + 6 * ks.length ≤ 100 ∧ ∀ k ∈ ks, 0 ≤ k) ?src (Less.spec (.same (.same (.same (.same (.same .nil)))))) ⟨ok, by simp [zs], ?nn⟩ (by decide +kernel) (fun t k post hok => ⟨?as, fun b' hb' => ⟨?okk, ?turn⟩, fun r hr => ?out⟩) (fun t ht => ?fin) (fun r hr => ?ret)
  case src =>
    exact aRange2 (a := (ring.idxOf 1 : Nat) + 1) (b := (ring.idxOf 1 : Nat) + 6) (aB B.range ⟨by decide +kernel⟩) (aBin (aN (.there (.there .here)) ⟨by decide +kernel⟩) (EV.int 1) op_add) (aBin (aN (.there (.there .here)) ⟨by decide +kernel⟩) (EV.int 6) op_add) ⟨⟨by omega, by omega, by omega, by omega⟩, by omega⟩ ⟨fun _ => rfl⟩ ⟨fun _ => rfl⟩
  case nn =>
    intro k hk
    obtain ⟨i, _, rfl⟩ := mem_zs hk
    omega
  case as => exact AS.var (.there (.there (.there (.there .here))))
  case okk =>
    obtain ⟨o1, o2, o3⟩ := hok
    have hlen := len_tkP ring coming k
    simp only [List.length_cons] at o2
    refine ⟨?_, ?_, fun k' hk' => o3 k' (by simp [hk'])⟩
    · unfold tkOk at o1
      unfold tkStep at hb'
      by_cases hr : atF ring k = 1
      · rw [if_pos hr] at o1 hb'
        split at hb'
        · cases hb'
        · rename_i hn
          cases hb'
          simp only [Bool.or_eq_true, not_or, Bool.not_eq_true, bne_eq_false_iff_eq] at hn
          rw [hn.1, hn.2] at o1
          simp at o1
          exact o1.2
      · rw [if_neg hr] at o1 hb'
        cases hb'
        exact o1
    · unfold tkStep at hb'
      by_cases hr : atF ring k = 1
      · rw [if_pos hr] at hb'
        split at hb'
        · cases hb'
        · cases hb'; simp; omega
      · rw [if_neg hr] at hb'
        cases hb'
        simp only [List.length_append]; omega
  case turn =>
    obtain ⟨o1, o2, o3⟩ := hok
    have hk := o3 k (by simp)
    refine ⟨.next (tkR ring coming b' (some (.int k))) st, _, ?_, .inl rfl, Less.spec (.same (.same (.same (.same (.off .nil)))))⟩
    unfold tkOk at o1
    unfold tkStep at hb'
    refine aIf (b := atF ring k == 1) (st₁ := st) (tC (ev_ring a hk) (EV.int 1) op_eq ⟨rfl⟩) (fun h => ?_) (fun h => ?_)
    · have hr : atF ring k = 1 := by simpa using h
      rw [if_pos hr] at o1 hb'
      split at hb'
      · cases hb'
      · rename_i hn
        cases hb'
        have hn' : (atF coming k == 1 || (checkF t != true)) = false := by simpa using hn
        refine aIf (b := (atF coming k == 1 || (checkF t != true))) (st₁ := st) (ET.or (tC (ev_coming a hk) (EV.int 1) op_eq ⟨rfl⟩) (fun hx => ?_) (fun _ => rfl)) (fun h => by rw [hn'] at h; cases h) (fun _ => ?_)
        · rw [hx] at o1
          simp only [Bool.false_or, Bool.and_eq_true] at o1
          have o4 := o1.1
          simp only [chkOk1, Bool.and_eq_true, decide_eq_true_eq, Bool.not_eq_true'] at o4
          exact tC (EV.call (aG B.check.glb ⟨by decide +kernel⟩) B.check.at_.callee (aS (aN (.there (.there (.there .here))) ⟨by decide +kernel⟩) .nil ⟨fun _ => rfl⟩) (c_check B o4.1.1 o4.1.2 o4.2)) (EV.boolC true) op_isnotb ⟨rfl⟩
        · exact aSet (EV.str []) (.there (.there (.there .here))) EX.nil ⟨by decide +kernel⟩ ⟨fun _ _ => rfl⟩
    · have hr : atF ring k ≠ 1 := by simpa using h
      rw [if_neg hr] at hb'
      cases hb'
      exact tk_piece a hk hr (by simp only [List.length_cons] at o2; omega)
  case out =>
    obtain ⟨o1, o2, o3⟩ := hok
    have hk := o3 k (by simp)
    unfold tkOk at o1
    unfold tkStep at hr
    refine aIf (b := atF ring k == 1) (st₁ := st) (tC (ev_ring a hk) (EV.int 1) op_eq ⟨rfl⟩) (fun h => ?_) (fun h => ?_)
    · have hr1 : atF ring k = 1 := by simpa using h
      rw [if_pos hr1] at o1 hr
      split at hr
      · rename_i hn
        cases hr
        refine aIf (b := (atF coming k == 1 || (checkF t != true))) (st₁ := st) (ET.or (tC (ev_coming a hk) (EV.int 1) op_eq ⟨rfl⟩) (fun hx => ?_) (fun _ => rfl)) (fun _ => aRet (EV.boolC false) rfl) (fun h => by rw [hn] at h; cases h)
        rw [hx] at o1
        simp only [Bool.false_or, Bool.and_eq_true] at o1
        have o4 := o1.1
        simp only [chkOk1, Bool.and_eq_true, decide_eq_true_eq, Bool.not_eq_true'] at o4
        exact tC (EV.call (aG B.check.glb ⟨by decide +kernel⟩) B.check.at_.callee (aS (aN (.there (.there (.there .here))) ⟨by decide +kernel⟩) .nil ⟨fun _ => rfl⟩) (c_check B o4.1.1 o4.1.2 o4.2)) (EV.boolC true) op_isnotb ⟨rfl⟩
      · cases hr
    · have hr1 : atF ring k ≠ 1 := by simpa using h
      rw [if_neg hr1] at hr
      cases hr
  case fin =>
    rw [tk_loop] at ht
    have : takesF ring coming = true := by
      unfold takesF
      cases h : loopF (tkStep () ring coming) [] (zs ((ring.idxOf 1 : Nat) + 1) 5) with
      | inl o' => rfl
      | inr r => rw [h] at ht; cases ht
    rw [this]
    exact aRet (EV.boolC true) rfl
  case ret =>
    rw [tk_loop] at hr
    unfold takesF
    cases h : loopF (tkStep () ring coming) [] (zs ((ring.idxOf 1 : Nat) + 1) 5) with
    | inl o' => rw [h] at hr; cases hr
    | inr r' => rw [h] at hr; cases hr; rfl
theorem c_takes {ring coming : List Int} (B : Base hS) (a : TkA ring coming) (h1 : (1 : Int) ∈ ring) (hlay : PyData.layable0 (.list (ring.map PyData.int)) = true) (ok : takesOk ring coming = true) :
    Op hS prog w (m + 12) (Call (.ref 144)) [dI ring, dI coming] (.bool (takesF ring coming)) :=
  fun_okL 3 B.lim B.takes.at_ rfl rfl (by decide +kernel) (w_takes B a h1 hlay ok)
end
end
section
/-! the lexer's class and its world -/
noncomputable abbrev mth (k : Nat) : Stmt := nthS (fdBody (top 8)) k
noncomputable abbrev lexCls : Obj := excClassObj "_netrclex" "_netrclex" 87 86 [.type "object"] [.type "object"] true [] [] false none none none none (some (.str "_netrclex" 257)) (some (.str "_netrclex" 265)) (some (.bool true)) "object.__new__"
noncomputable abbrev lexAbsent : List Str := ["__getattribute__", "__getattr__", "__setattr__", "lineno", "instream", "whitespace", "pushback", "read"]
noncomputable def asgE : Stmt → Expr
  | .Assign _ e _ => e
  | _ => .Constant .none 0 default
noncomputable def lamB : Expr → Expr
  | .Lambda _ b _ _ => b
  | _ => .Constant .none 0 default
noncomputable def lamP : Expr → Arguments
  | .Lambda p _ _ _ => p
  | _ => default
noncomputable def lamS : Expr → Scope
  | .Lambda _ _ s _ => s
  | _ => default
noncomputable def lamPos : Expr → Pos
  | .Lambda _ _ _ p => p
  | _ => default
noncomputable abbrev lamE : Expr := asgE (nthS (fdBody (top 10)) 1)
noncomputable abbrev lamQ : Str := "_law_stream.<locals>.<lambda>"
structure LexBase (hS : Heap) : Prop where
  cls : hS.get? 87 = some lexCls
  ns : ∃ mN, hS.Ns 86 mN ∧ mN "__init__" = some (.ref 63) ∧ mN "_read_char" = some (.ref 70) ∧ mN "get_token" = some (.ref 77) ∧ mN "push_token" = some (.ref 84) ∧ ∀ n ∈ lexAbsent, mN n = none
  fns : ∀ a ∈ [63, 70, 77, 84], ∃ o, hS.get? a = some o ∧ o.cls = .type "function"
  init : FnAt hS 63 (fdScope (mth 0)) ["self", "fp"] (fdBody (mth 0))
  read : FnAt hS 70 (fdScope (mth 1)) ["self"] (fdBody (mth 1))
  tok : FnAt hS 77 (fdScope (mth 2)) ["self"] (fdBody (mth 2))
  push : FnAt hS 84 (fdScope (mth 3)) ["self", "token"] (fdBody (mth 3))
  glb : Glb hS "_netrclex" (.ref 87)
  frag : ∃ K : Frag, K.In hS ∧ findIn K (.ref 87) "__getattribute__" = some (some (.builtin "object.__getattribute__")) ∧ findIn K (.ref 87) "__getattr__" = some none ∧ typeIn K (.ref 70) = some (.type "function") ∧
    ∀ od, lookIn "_read_char" od = some none → findObj K 87 (some od) "_read_char" = some (Builtin.ObjectAttr.Found.bind (.builtin "function.__get__") (.ref 70))
  hide : hS.get? 93 = none
  code : CodeHd hS 97 93
  stream : ∃ o fd, hS.get? 98 = some o ∧ o.data = .func fd ∧ fd.qualname = "_law_stream" ∧ fd.code = .ref 97
  bu : ∃ mg, hS.Ns mainGlobals mg ∧ hS.BuiltinsAt mg 93

structure LA where
  LX : Addr
  DX : Addr
  PB : Addr
  ST : Addr
  DS : Addr
  FN : Addr
  CL : Addr
  SG : Addr
  CD : Addr
noncomputable def LA.all (a : LA) : List Addr := [93, a.LX, a.DX, a.PB, a.ST, a.DS, a.FN, a.CL, a.SG, a.CD]
structure LA.Ok (hS : Heap) (a : LA) : Prop where
  nd : a.all.Nodup
  out : ∀ b ∈ a.all, hS.get? b = none
structure Lx where
  line : Int
  pb : List (List Nat)
  sg : List Nat
noncomputable abbrev lexWs : List Nat := [10, 9, 13, 32]
noncomputable abbrev lexF : List Str := ["lineno", "instream", "whitespace", "pushback"]
noncomputable abbrev dC (l : List Nat) : List D := l.map fun c => .str (S [c])
noncomputable abbrev dP (l : List (List Nat)) : List D := l.map fun p => .str (S p)
structure LexM (a : LA) (x : Lx) (m : Str → Option Value) : Prop where
  line : ∃ t, m "lineno" = some (.int x.line t)
  ins : m "instream" = some (.ref a.ST)
  ws : ∃ t, m "whitespace" = some (.str (S lexWs) t)
  pb : m "pushback" = some (.ref a.PB)
  only : PySem.Within m lexF
structure LexAt (a : LA) (x : Lx) (s : Shared) : Prop where
  tab : ∃ ps, s.heap.get? 93 = some (tabObj ps)
  lex : ∃ m, s.heap.InstFk a.LX 87 m ∧ LexM a x m
  ldict : ∀ o, s.heap.get? a.LX = some o → o.dict = some a.DX
  str : ∃ m, s.heap.InstFk a.ST 87 m ∧ m "read" = some (.ref a.FN)
  sdict : ∀ o, s.heap.get? a.ST = some o → o.dict = some a.DS
  fn : ∃ pm ctv, s.heap.get? a.FN = some (kla_obj "<lambda>" lamQ (lamP lamE) (lamB lamE) (lamS lamE) [("signs", a.CL)] pm a.CD ctv)
  code : s.heap.CodeRec (.ref a.CD) lamQ
  cell : s.heap.IsCell a.CL (some (.ref a.SG))
  sg : OwnList s.heap a.SG (dC x.sg)
  pb : OwnList s.heap a.PB (dP x.pb)

theorem instFk_at {h h' : Heap} {x C d : Addr} {m : Str → Option Value} (I : h.InstFk x C m) (hd : ∀ o, h.get? x = some o → o.dict = some d) (k1 : ∀ o, h.get? x = some o → h'.get? x = some o) (k2 : ∀ o, h.get? d = some o → h'.get? d = some o) : h'.InstFk x C m := by
  obtain ⟨o, ho, hc, hn, hdd⟩ := I
  refine ⟨o, k1 o ho, hc, hn, ?_⟩
  rcases hdd with ⟨e, _⟩ | ⟨d', e, hne, hns, hex⟩
  · rw [hd o ho] at e; cases e
  · have : d' = d := by rw [hd o ho] at e; exact (Option.some.inj e).symm
    subst this
    exact .inr ⟨d', e, hne, hns.at k2, hex.at k2⟩
theorem instFk_alive {h : Heap} {x C d : Addr} {m : Str → Option Value} (I : h.InstFk x C m) (hd : ∀ o, h.get? x = some o → o.dict = some d) : (∃ o, h.get? x = some o) ∧ ∃ o, h.get? d = some o := by
  obtain ⟨o, ho, hc, hn, hdd⟩ := I
  refine ⟨⟨o, ho⟩, ?_⟩
  rcases hdd with ⟨e, _⟩ | ⟨d', e, hne, hns, hex⟩
  · rw [hd o ho] at e; cases e
  · have : d' = d := by rw [hd o ho] at e; exact (Option.some.inj e).symm
    subst this
    obtain ⟨od, e, _⟩ := hex
    exact ⟨od, e⟩
theorem dict_at {h h' : Heap} {x d : Addr} (al : ∃ o, h.get? x = some o) (hd : ∀ o, h.get? x = some o → o.dict = some d) (k : ∀ o, h.get? x = some o → h'.get? x = some o) : ∀ o, h'.get? x = some o → o.dict = some d := by
  obtain ⟨o, ho⟩ := al
  intro o' ho'
  rw [k o ho] at ho'
  cases ho'
  exact hd o ho
theorem codeRec_at {h h' : Heap} {c : Addr} {q : Str} (r : h.CodeRec (.ref c) q) (k : ∀ o, h.get? c = some o → h'.get? c = some o) : h'.CodeRec (.ref c) q := by
  obtain ⟨c', oc, vs, t, e, ho, r⟩ := r
  cases e
  exact ⟨c, oc, vs, t, rfl, k _ ho, r⟩
theorem LexAt.alive {a : LA} {x : Lx} {s : Shared} (L : LexAt a x s) : ∀ b ∈ a.all, ∃ o, s.heap.get? b = some o := by
  intro b hb
  simp only [LA.all, List.mem_cons, List.not_mem_nil, or_false] at hb
  obtain ⟨m, I, _⟩ := L.lex
  obtain ⟨m', I', _⟩ := L.str
  rcases hb with rfl | rfl | rfl | rfl | rfl | rfl | rfl | rfl | rfl | rfl
  · obtain ⟨_, e⟩ := L.tab; exact ⟨_, e⟩
  · exact (instFk_alive I L.ldict).1
  · exact (instFk_alive I L.ldict).2
  · exact L.pb.alive
  · exact (instFk_alive I' L.sdict).1
  · exact (instFk_alive I' L.sdict).2
  · obtain ⟨_, _, e⟩ := L.fn; exact ⟨_, e⟩
  · obtain ⟨o, e, _⟩ := L.cell; exact ⟨_, e⟩
  · exact L.sg.alive
  · obtain ⟨c', oc, vs, t, e, ho, _⟩ := L.code; cases e; exact ⟨_, ho⟩
theorem LexAt.at {a : LA} {x : Lx} {s s' : Shared} (L : LexAt a x s) (k : ∀ b o, b ∈ a.all → s.heap.get? b = some o → s'.heap.get? b = some o) : LexAt a x s' := by
  have kk : ∀ b, b ∈ a.all → ∀ o, s.heap.get? b = some o → s'.heap.get? b = some o := fun b hb o => k b o hb
  obtain ⟨m, I, M⟩ := L.lex
  obtain ⟨m', I', M'⟩ := L.str
  obtain ⟨o93, e93⟩ := L.tab
  obtain ⟨pm, ctv, eF⟩ := L.fn
  exact ⟨⟨o93, kk 93 (by simp [LA.all]) _ e93⟩, ⟨m, instFk_at I L.ldict (kk _ (by simp [LA.all])) (kk _ (by simp [LA.all])), M⟩, dict_at (instFk_alive I L.ldict).1 L.ldict (kk _ (by simp [LA.all])),
    ⟨m', instFk_at I' L.sdict (kk _ (by simp [LA.all])) (kk _ (by simp [LA.all])), M'⟩, dict_at (instFk_alive I' L.sdict).1 L.sdict (kk _ (by simp [LA.all])),
    ⟨pm, ctv, kk _ (by simp [LA.all]) _ eF⟩, codeRec_at L.code (kk _ (by simp [LA.all])), isCell_at L.cell (kk _ (by simp [LA.all])), L.sg.at (kk _ (by simp [LA.all])), L.pb.at (kk _ (by simp [LA.all]))⟩
noncomputable def lexW (hS : Heap) (a : LA) (ok : LA.Ok hS a) : Wd hS where
  Mut := fun b => b ∈ [93, a.LX, a.DX, a.PB, a.SG]
  foot := fun b => b ∈ a.all
  σ := Lx
  holds := LexAt a
  mutF := fun b m => by
    simp only [List.mem_cons, List.not_mem_nil, or_false] at m
    rcases m with rfl | rfl | rfl | rfl | rfl <;> simp [LA.all]
  apart := fun b o e m => by
    rw [ok.out b (by simp only [List.mem_cons, List.not_mem_nil, or_false] at m; rcases m with rfl | rfl | rfl | rfl | rfl <;> simp [LA.all])] at e; cases e
  alive := fun h b m => h.alive b m
  stable := fun h k1 _ => h.at fun b o m e => k1 b o m e
end
section
/-! attributes and methods of the lexer -/
section
variable {hS : Heap}
/-- an attribute that the world knows -/
noncomputable def HasAttrW (W : Wd hS) (st : W.σ) (d0 : D) (name : Str) (d : D) : Prop :=
  ∀ {prog : Program} {w : World} {A : Around} {U : Addr → Prop} {s : Shared} {v : Value} {ex : Bool} {Q : Value → Shared → Prop} {E : Value → Shared → Prop}, (∀ a o, hS.get? a = some o → s.heap.get? a = some o) → W.holds st s → Rep U s.heap v d0 →
    (∀ v' tk, Rep U s.heap v' d → Q v' { s with toks := tk }) → wpAny (model prog w) A (getAttr v name ex) Q E s
/-- a function that an attribute of an object holds -/
noncomputable def HasFnW (W : Wd hS) (st : W.σ) (d0 : D) (name : Str) (f : Value) : Prop :=
  ∀ {prog : Program} {w : World} {A : Around} {U : Addr → Prop} {s : Shared} {v : Value} {pl : Sem Bool} {Q : Value × List Value → Shared → Prop} {E : Value → Shared → Prop}, (∀ a o, hS.get? a = some o → s.heap.get? a = some o) → W.holds st s → Rep U s.heap v d0 →
    (∀ tk, Q (f, []) { s with toks := tk }) → wpAny (model prog w) A (getMethod v name pl) Q E s
theorem lo_lineno : typeLookup (.type "object") "lineno" = pure none := by rw [typeLookup_type, builtinLookup_eq_fast]; kernel_rfl
theorem lo_instream : typeLookup (.type "object") "instream" = pure none := by rw [typeLookup_type, builtinLookup_eq_fast]; kernel_rfl
theorem lo_whitespace : typeLookup (.type "object") "whitespace" = pure none := by rw [typeLookup_type, builtinLookup_eq_fast]; kernel_rfl
theorem lo_pushback : typeLookup (.type "object") "pushback" = pure none := by rw [typeLookup_type, builtinLookup_eq_fast]; kernel_rfl
theorem lo_read : typeLookup (.type "object") "read" = pure none := by rw [typeLookup_type, builtinLookup_eq_fast]; kernel_rfl
theorem lo_read_char : typeLookup (.type "object") "_read_char" = pure none := by rw [typeLookup_type, builtinLookup_eq_fast]; kernel_rfl
theorem lo_get_token : typeLookup (.type "object") "get_token" = pure none := by rw [typeLookup_type, builtinLookup_eq_fast]; kernel_rfl
theorem lo_push_token : typeLookup (.type "object") "push_token" = pure none := by rw [typeLookup_type, builtinLookup_eq_fast]; kernel_rfl

variable {prog : Program} {w : World} {n : Nat}
variable {W : Wd hS} {sc : Scope} {vars : List Str} {ρ ρ' : List (Option D)} {st st₁ st₂ st₃ : W.σ}
theorem EV.attrW {o : Expr} {name : Str} {pos : Pos} {d0 d : D} (hf : EV prog w n W sc vars ρ st o d0 st₁) (m : HasAttrW W st₁ d0 name d)
    (he : ∀ env, eval (.Attribute o name pos) env = (do
      let ov ← eval o env
      standAt pos.atName
      let r ← holding [ov] (getAttr ov name true)
      letTemporaryGo o ov r
      pure r) := by intro _; rfl) : EV prog w n W sc vars ρ st (.Attribute o name pos) d st₁ := fun A env U s r f I => by
  refine Attribute_any_ (wpAny_mono (hf A env U s r f I) (fun v s1 q1 => ?_) fun _ _ x => x) (he env)
  have I1 := I.step q1.1 q1.2.1
  refine m I1.static q1.2.1 q1.2.2 fun v' tk hr => ?_
  exact ⟨q1.1.trans .tok, I1.hold0 .tok, hr⟩
theorem EV.fnW {o : Expr} {name : Str} {apos pos : Pos} {args : List Expr} {d0 : D} {ds : List D} {d : D} {a : Addr} {pl : Env → Sem Bool} (hf : EV prog w n W sc vars ρ st o d0 st₁) (m : HasFnW W st₁ d0 name (.ref a))
    (hfn : ∀ {s : Shared}, W.holds st₁ s → ∃ o fd, s.heap.get? a = some o ∧ o.data = .func fd) (hmu : ¬ W.Mut a) (q : EVs prog w n W sc vars ρ st₁ args ds st₂) (ho : OpW W prog w n st₂ (Call (.ref a)) ds d st₃)
    (he : ∀ env, eval (.Call (.Attribute o name apos) args [] pos) env = (do
      let ov ← eval o env
      standAt apos.atName
      let (f, first) ← holding [ov] (getMethod ov name (pl env))
      callWith pos f first (backTo pos (starEach args env)) []) := by intro _; rfl) : EV prog w n W sc vars ρ st (.Call (.Attribute o name apos) args [] pos) d st₃ := fun A env U s r ft I => by
  refine MethodCall_ (pl := pl env) (wpAny_mono (hf A env U s r ft I) (fun v s1 q1 => ?_) fun _ _ x => x) (he env)
  have I1 := I.step q1.1 q1.2.1
  refine m I1.static q1.2.1 q1.2.2 fun tk => ?_
  have I2 : Stand W U env vars ρ st₁ { s1 with toks := tk } := I1.step0 .tok
  have key : wpAny (model prog w) A (evalArgs (.ref a) true (backTo pos (starEach args env)) []) (fun g s' => ∃ vs, g = ⟨vs, []⟩ ∧ Stand W U env vars ρ st₂ s' ∧ (Ext W.Mut s s' ∧ Ext W.Mut { s1 with toks := tk } s') ∧ Reps U s'.heap vs ds) (fun _ _ => False) { s1 with toks := tk } :=
    wpAny_mono (q.args r ft I2) (fun g s' ⟨vs, e, x, hh, rr⟩ => ⟨vs, e, I2.step x hh, ⟨(q1.1.trans .tok).trans x, x⟩, rr⟩) fun _ _ x => x
  obtain ⟨o, fd, ho', hd⟩ := hfn I2.hold
  refine Calls.callWith_function (o := o) (fd := fd) (wpAny_mono key (fun g s' ⟨vs, e, I3, x3, r3⟩ => ?_) fun _ _ x => x)
  subst e
  refine ⟨⟨x3.2.keep _ _ hmu ho', hd⟩, ?_⟩
  refine wpAny_mono (ho A U s' vs r I3.static I3.mutU I3.low I3.hold r3) (fun v' s3 q3 => ?_) fun _ _ x => x
  exact ⟨x3.1.trans q3.1, q3.2.1, q3.2.2⟩

variable {a : LA} {ok : LA.Ok hS a} {x : Lx}
theorem only_none {m : Str → Option Value} (h : PySem.Within m lexF) {n : Str} (hn : n ∉ lexF) : m n = none := by
  cases e : m n with
  | none => rfl
  | some v => exact absurd (h n (by rw [e]; simp)) hn
theorem attr_line (B : LexBase hS) : HasAttrW (lexW hS a ok) x (.raw (.ref a.LX)) "lineno" (.int x.line) := fun {prog w A U s v ex Q E} stat hold r q => by
  have e := r.of_raw; subst e
  obtain ⟨m, I, M⟩ := LexAt.lex hold
  obtain ⟨mN, hn, h1, h2, h3, h4, hno⟩ := B.ns
  obtain ⟨h, g, dr, t, os⟩ := s
  obtain ⟨t', e⟩ := M.line
  exact load_attrFk (stat _ _ B.cls) (hn.keeps stat) (hno _ (by decide +kernel)) (hno _ (by decide +kernel)) lo_lineno I e rfl (q _ _ (.int _ _))
theorem attr_ins (B : LexBase hS) : HasAttrW (lexW hS a ok) x (.raw (.ref a.LX)) "instream" (.raw (.ref a.ST)) := fun {prog w A U s v ex Q E} stat hold r q => by
  have e := r.of_raw; subst e
  obtain ⟨m, I, M⟩ := LexAt.lex hold
  obtain ⟨mN, hn, h1, h2, h3, h4, hno⟩ := B.ns
  obtain ⟨h, g, dr, t, os⟩ := s
  exact load_attrFk (stat _ _ B.cls) (hn.keeps stat) (hno _ (by decide +kernel)) (hno _ (by decide +kernel)) lo_instream I M.ins rfl (q _ _ (.raw _))
theorem attr_ws (B : LexBase hS) : HasAttrW (lexW hS a ok) x (.raw (.ref a.LX)) "whitespace" (.str (S lexWs)) := fun {prog w A U s v ex Q E} stat hold r q => by
  have e := r.of_raw; subst e
  obtain ⟨m, I, M⟩ := LexAt.lex hold
  obtain ⟨mN, hn, h1, h2, h3, h4, hno⟩ := B.ns
  obtain ⟨h, g, dr, t, os⟩ := s
  obtain ⟨t', e⟩ := M.ws
  exact load_attrFk (stat _ _ B.cls) (hn.keeps stat) (hno _ (by decide +kernel)) (hno _ (by decide +kernel)) lo_whitespace I e rfl (q _ _ (.str _ _))
theorem attr_pb (B : LexBase hS) : HasAttrW (lexW hS a ok) x (.raw (.ref a.LX)) "pushback" (.raw (.ref a.PB)) := fun {prog w A U s v ex Q E} stat hold r q => by
  have e := r.of_raw; subst e
  obtain ⟨m, I, M⟩ := LexAt.lex hold
  obtain ⟨mN, hn, h1, h2, h3, h4, hno⟩ := B.ns
  obtain ⟨h, g, dr, t, os⟩ := s
  exact load_attrFk (stat _ _ B.cls) (hn.keeps stat) (hno _ (by decide +kernel)) (hno _ (by decide +kernel)) lo_pushback I M.pb rfl (q _ _ (.raw _))
theorem meth_lex (B : LexBase hS) {name : Str} {f : Addr} (hf : (name = "_read_char" ∧ f = 70) ∨ (name = "get_token" ∧ f = 77) ∨ (name = "push_token" ∧ f = 84)) : HasMethW (lexW hS a ok) x (.raw (.ref a.LX)) name (.ref f) := fun {prog w A U s v pl Q E} stat hold r q => by
  have e := r.of_raw; subst e
  obtain ⟨m, I, M⟩ := LexAt.lex hold
  obtain ⟨mN, hn, h1, h2, h3, h4, hno⟩ := B.ns
  obtain ⟨h, g, dr, t, os⟩ := s
  rcases hf with ⟨rfl, rfl⟩ | ⟨rfl, rfl⟩ | ⟨rfl, rfl⟩
  · obtain ⟨o, ho, hc⟩ := B.fns 70 (by simp)
    exact method_ofFk (stat _ _ B.cls) (hn.keeps stat) (hno _ (by decide +kernel)) (hno _ (by decide +kernel)) h2 (stat _ _ ho) hc lo_read_char I (only_none M.only (by decide +kernel)) q
  · obtain ⟨o, ho, hc⟩ := B.fns 77 (by simp)
    exact method_ofFk (stat _ _ B.cls) (hn.keeps stat) (hno _ (by decide +kernel)) (hno _ (by decide +kernel)) h3 (stat _ _ ho) hc lo_get_token I (only_none M.only (by decide +kernel)) q
  · obtain ⟨o, ho, hc⟩ := B.fns 84 (by simp)
    exact method_ofFk (stat _ _ B.cls) (hn.keeps stat) (hno _ (by decide +kernel)) (hno _ (by decide +kernel)) h4 (stat _ _ ho) hc lo_push_token I (only_none M.only (by decide +kernel)) q
set_option maxHeartbeats 1000000 in
theorem fn_read (B : LexBase hS) : HasFnW (lexW hS a ok) x (.raw (.ref a.ST)) "read" (.ref a.FN) := fun {prog w A U s v pl Q E} stat hold r q => by
  have e := r.of_raw; subst e
  obtain ⟨m, I, M⟩ := LexAt.str hold
  obtain ⟨mN, hn, h1, h2, h3, h4, hno⟩ := B.ns
  obtain ⟨h, g, dr, t, os⟩ := s
  have hC := stat _ _ B.cls
  have hn' := hn.keeps stat
  have hng : mN "__getattribute__" = none := hno _ (by decide +kernel)
  have hnh : mN "__getattr__" = none := hno _ (by decide +kernel)
  have hna : mN "read" = none := hno _ (by decide +kernel)
  have ld : ∀ {Q : Value → Shared → Prop}, (∀ tk, Q (.ref a.FN) ⟨h, g, dr, tk, os⟩) → wpAny (model prog w) A (getAttr (.ref a.ST) "read") Q E ⟨h, g, dr, t, os⟩ := fun hq => load_attrFk hC hn' hng hna lo_read I M rfl (hq _)
  obtain ⟨o, hx, hc, hnc, hd⟩ := id I
  have hcan := F.canon_object_ga
  unfold getMethod specialOf
  repeat (first | (with_reducible refine wpAny_loadPart_at hx ?_; rw [hc]) | (with_reducible refine wpAny_typeLookup_exc hC hn' F.mro_object F.lk_object_ga ?_; rw [hng]) | (with_reducible refine wpAny_typeLookup_exc hC hn' F.mro_object F.lk_object_getattr ?_; rw [hnh]) | (with_reducible refine wpAny_typeLookup_exc hC hn' F.mro_object lo_read ?_; rw [hna]) | simp only [hcan, Bool.false_eq_true, if_false] | wp_step)
  show wpAny _ _ ((runValue (.builtin "proto.getattr_hooked" ⟨[.ref a.ST, .str "read" t], []⟩)).onRaise (noteIf true (.ref a.ST) (.str "read" t))) _ _ _
  refine wpAny_onRaise (wpAny_runValue (codeAny_builtin F.plainObj_entry_getattr_hooked (load_entryFk hC hn' hna lo_read I M ?_)))
  exact wpAny_pure (wpAny_pure (q _))
theorem fn_obj {s : Shared} (h : (lexW hS a ok).holds x s) : ∃ o fd, s.heap.get? a.FN = some o ∧ o.data = .func fd := by
  obtain ⟨pm, ctv, e⟩ := LexAt.fn h
  exact ⟨_, _, e, rfl⟩
end
end
section
/-! the lexer's lists -/
section
variable {prog : Program} {w : World} {A : Around} {E : Value → Shared → Prop} {s : Shared}
theorem pop_own {b : Addr} {d : D} {l : List D} {t : Tok} {Q : Value → Shared → Prop} (o : OwnList s.heap b (d :: l)) (hsz : l.length ≤ 1000000)
    (h : ∀ v h', Rep Flat h' v d → OwnList h' b l → (∀ b' o, b' ≠ b → s.heap.get? b' = some o → h'.get? b' = some o) → Q v { s with heap := h' }) : wpAny (model prog w) A (call (.builtin "list.pop") [.ref b, .int 0 t]) Q E s := by
  obtain ⟨vs, ⟨m, ho⟩, r⟩ := o
  cases r with
  | @cons v _ vs _ r1 r2 =>
    have hs : (v :: vs).toArray.size = vs.length + 1 := by simp
    have hvl := r2.length
    refine call_meets PySem.F.slot_list_pop ⟨_, ho, rfl⟩ PySem.F.entry_list_pop (PySem.F.args_list_pop_2 _ _) (PySem.MeetsSeq.list_pop_at b (v :: vs).toArray m 0 t 0 v (by decide) (by rw [seqIndex_of (by decide) (by rw [hs]; omega)]; rfl) (by simp) (by rw [hs, hvl]; exact Nat.le_trans (Nat.add_le_add_right hsz 1) (by decide))) ⟨ho, ?_⟩
    have keep : ∀ b' o, b' ≠ b → s.heap.get? b' = some o → (s.heap.update b (Obj.mapSeq fun x => x.eraseIdxIfInBounds 0)).get? b' = some o := fun b' o hb e => (Heap.get?_update_other _ _ (Ne.symm hb)).trans e
    refine h v _ r1.flat ⟨vs, ?_, r2.flat⟩ keep
    obtain ⟨m', hm⟩ := Obj.data_mapSeq (o := { cls := .type "list", data := .seq (v :: vs).toArray m }) rfl (fun x => x.eraseIdxIfInBounds 0)
    refine ⟨m', (Heap.get?_update_self _ ho (Obj.isFreed_of_seq hm)).trans ?_⟩
    have e2 : vs.toArray = (v :: vs).toArray.eraseIdxIfInBounds 0 := by simp [Array.eraseIdxIfInBounds]
    rw [e2, ← hm]; rfl
theorem append_own {b : Addr} {d : D} {l : List D} {v : Value} {Q : Value → Shared → Prop} (o : OwnList s.heap b l) (hsz : l.length ≤ 1000000) (r : Rep Flat s.heap v d)
    (h : ∀ h', OwnList h' b (l ++ [d]) → (∀ b' o, b' ≠ b → s.heap.get? b' = some o → h'.get? b' = some o) → Q .none { s with heap := h' }) : wpAny (model prog w) A (call (.builtin "list.append") [.ref b, v]) Q E s := by
  obtain ⟨ws, ⟨m, ho⟩, rr⟩ := o
  refine call_meets PySem.F.slot_list_append ⟨_, ho, rfl⟩ PySem.F.entry_list_append (PySem.F.args_list_append_2 _ _) (AutoListH.list_append_list_val_0 b ws.toArray m v (by simp [rr.length]; exact Nat.le_trans hsz (by decide))) ⟨ho, ?_⟩
  have keep : ∀ b' o, b' ≠ b → s.heap.get? b' = some o → (s.heap.update b (Obj.mapSeq fun x => x.push v)).get? b' = some o := fun b' o hb e => (Heap.get?_update_other _ _ (Ne.symm hb)).trans e
  refine h _ ⟨ws ++ [v], ?_, rr.flat.snoc r.flat⟩ keep
  obtain ⟨m', hm⟩ := Obj.data_mapSeq (o := { cls := .type "list", data := .seq ws.toArray m }) rfl (fun x => x.push v)
  refine ⟨m', (Heap.get?_update_self _ ho (Obj.isFreed_of_seq hm)).trans ?_⟩
  have e2 : (ws ++ [v]).toArray = ws.toArray.push v := by simp
  rw [e2, ← hm]; rfl
end
section
variable {hS : Heap} {prog : Program} {w : World} {n : Nat}
variable {W : Wd hS} {sc : Scope} {vars : List Str} {ρ ρ' : List (Option D)} {st st₁ st₂ st₃ : W.σ}
noncomputable def TruthW (W : Wd hS) (st : W.σ) (d : D) (b : Bool) : Prop := ∀ {prog : Program} {w : World} {A : Around} {U : Addr → Prop} {s : Shared} {v : Value} {Q : Bool → Shared → Prop} {E : Value → Shared → Prop}, W.holds st s → Rep U s.heap v d → (∀ tk, Q b { s with toks := tk }) → wpAny (model prog w) A (truthy v) Q E s
theorem ET.ofW {e : Expr} {d : D} {b : Bool} (h : EV prog w n W sc vars ρ st e d st₁) (t : TruthW W st₁ d b)
    (he : ∀ env whole, isTrue e env whole = (do let v ← whole; standAt e.pos; holding [v] (truthy v)) := by intro _ _; rfl) : ET prog w n W sc vars ρ st e b st₁ := fun A env U s rm f I => by
  rw [he]
  exact wpAny_bind (wpAny_mono (h A env U s rm f I) (fun v s1 q => wpAny_bind (wpAny_standAt (wpAny_holding (t q.2.1 q.2.2 fun tk => ⟨q.1.trans .tok, (I.step q.1 q.2.1).hold0 .tok, rfl⟩)))) fun _ _ x => x)

variable {a : LA} {ok : LA.Ok hS a} {x : Lx}
theorem ndNe : ∀ {l : List Addr} (_ : l.Nodup) (i j : Nat) (_ : i ≠ j) {x y : Addr} (_ : l[i]? = some x) (_ : l[j]? = some y), x ≠ y
  | [], _, i, _, _, _, _, hx, _ => by simp at hx
  | z :: l, nd, 0, 0, h, _, _, _, _ => absurd rfl h
  | z :: l, nd, 0, j + 1, _, x, y, hx, hy => by
    simp only [List.getElem?_cons_zero, Option.some.injEq] at hx
    rw [List.getElem?_cons_succ] at hy
    intro q
    exact (List.nodup_cons.mp nd).1 (by rw [hx, q]; exact List.mem_of_getElem? hy)
  | z :: l, nd, i + 1, 0, _, x, y, hx, hy => by
    simp only [List.getElem?_cons_zero, Option.some.injEq] at hy
    rw [List.getElem?_cons_succ] at hx
    intro q
    exact (List.nodup_cons.mp nd).1 (by rw [hy, ← q]; exact List.mem_of_getElem? hx)
  | z :: l, nd, i + 1, j + 1, h, x, y, hx, hy => by
    rw [List.getElem?_cons_succ] at hx hy
    exact ndNe (List.nodup_cons.mp nd).2 i j (fun q => h (by rw [q])) hx hy
theorem LexAt.setSg {s s' : Shared} {l : List Nat} (nd : a.all.Nodup) (L : LexAt a x s) (k : ∀ b o, b ≠ a.SG → s.heap.get? b = some o → s'.heap.get? b = some o) (h : OwnList s'.heap a.SG (dC l)) : LexAt a { x with sg := l } s' := by
  have kk : ∀ b i, i ≠ 8 → a.all[i]? = some b → ∀ o, s.heap.get? b = some o → s'.heap.get? b = some o := fun b i hi hb o => k b o (ndNe nd i 8 hi hb rfl)
  obtain ⟨m, I, M⟩ := L.lex
  obtain ⟨m', I', M'⟩ := L.str
  obtain ⟨o93, e93⟩ := L.tab
  obtain ⟨pm, ctv, eF⟩ := L.fn
  exact ⟨⟨o93, kk 93 0 (by decide) rfl _ e93⟩, ⟨m, instFk_at I L.ldict (kk _ 1 (by decide) rfl) (kk _ 2 (by decide) rfl), ⟨M.line, M.ins, M.ws, M.pb, M.only⟩⟩, dict_at (instFk_alive I L.ldict).1 L.ldict (kk _ 1 (by decide) rfl),
    ⟨m', instFk_at I' L.sdict (kk _ 4 (by decide) rfl) (kk _ 5 (by decide) rfl), M'⟩, dict_at (instFk_alive I' L.sdict).1 L.sdict (kk _ 4 (by decide) rfl),
    ⟨pm, ctv, kk _ 6 (by decide) rfl _ eF⟩, codeRec_at L.code (kk _ 9 (by decide) rfl), isCell_at L.cell (kk _ 7 (by decide) rfl), h, L.pb.at (kk _ 3 (by decide) rfl)⟩
theorem LexAt.setPb {s s' : Shared} {l : List (List Nat)} (nd : a.all.Nodup) (L : LexAt a x s) (k : ∀ b o, b ≠ a.PB → s.heap.get? b = some o → s'.heap.get? b = some o) (h : OwnList s'.heap a.PB (dP l)) : LexAt a { x with pb := l } s' := by
  have kk : ∀ b i, i ≠ 3 → a.all[i]? = some b → ∀ o, s.heap.get? b = some o → s'.heap.get? b = some o := fun b i hi hb o => k b o (ndNe nd i 3 hi hb rfl)
  obtain ⟨m, I, M⟩ := L.lex
  obtain ⟨m', I', M'⟩ := L.str
  obtain ⟨o93, e93⟩ := L.tab
  obtain ⟨pm, ctv, eF⟩ := L.fn
  exact ⟨⟨o93, kk 93 0 (by decide) rfl _ e93⟩, ⟨m, instFk_at I L.ldict (kk _ 1 (by decide) rfl) (kk _ 2 (by decide) rfl), ⟨M.line, M.ins, M.ws, M.pb, M.only⟩⟩, dict_at (instFk_alive I L.ldict).1 L.ldict (kk _ 1 (by decide) rfl),
    ⟨m', instFk_at I' L.sdict (kk _ 4 (by decide) rfl) (kk _ 5 (by decide) rfl), M'⟩, dict_at (instFk_alive I' L.sdict).1 L.sdict (kk _ 4 (by decide) rfl),
    ⟨pm, ctv, kk _ 6 (by decide) rfl _ eF⟩, codeRec_at L.code (kk _ 9 (by decide) rfl), isCell_at L.cell (kk _ 7 (by decide) rfl), L.sg.at (kk _ 8 (by decide) rfl), h⟩
theorem lex_ext {s : Shared} {h' : Heap} {b : Addr} (hb : b ∈ [93, a.LX, a.DX, a.PB, a.SG]) (k : ∀ b' o, b' ≠ b → s.heap.get? b' = some o → h'.get? b' = some o) : Ext (lexW hS a ok).Mut s { s with heap := h' } :=
  ⟨fun b' o nm e => k b' o (fun q => nm (q ▸ hb)) e, rfl, Nat.le_refl _, fun _ _ => rfl, fun b => b⟩
theorem lex_popPB {p : List Nat} {l : List (List Nat)} (hx : x.pb = p :: l) (hsz : l.length ≤ 1000000) : OpW (lexW hS a ok) prog w n x (Call (.builtin "list.pop")) [.raw (.ref a.PB), .int 0] (.str (S p)) { x with pb := l } := fun A U s vs rm stat mu low hold q => by
  obtain ⟨u, v, rfl, q1, q2⟩ := q.two
  have e1 := q1.of_raw; subst e1
  obtain ⟨t, rfl⟩ := q2.of_int
  have hp := LexAt.pb hold
  rw [hx] at hp
  refine pop_own hp (by simpa using hsz) fun v h' rv ho k => ⟨lex_ext (by simp) k, LexAt.setPb ok.nd hold k ho, ?_⟩
  obtain ⟨t', rfl⟩ := rv.of_str
  exact .str _ _
theorem lex_popSG {c : Nat} {l : List Nat} (hx : x.sg = c :: l) (hsz : l.length ≤ 1000000) : OpW (lexW hS a ok) prog w n x (Call (.builtin "list.pop")) [.raw (.ref a.SG), .int 0] (.str (S [c])) { x with sg := l } := fun A U s vs rm stat mu low hold q => by
  obtain ⟨u, v, rfl, q1, q2⟩ := q.two
  have e1 := q1.of_raw; subst e1
  obtain ⟨t, rfl⟩ := q2.of_int
  have hp := LexAt.sg hold
  rw [hx] at hp
  refine pop_own hp (by simpa using hsz) fun v h' rv ho k => ⟨lex_ext (by simp) k, LexAt.setSg ok.nd hold k ho, ?_⟩
  obtain ⟨t', rfl⟩ := rv.of_str
  exact .str _ _
theorem lex_appPB {p : List Nat} (hsz : x.pb.length ≤ 1000000) : OpW (lexW hS a ok) prog w n x (Call (.builtin "list.append")) [.raw (.ref a.PB), .str (S p)] .none { x with pb := x.pb ++ [p] } := fun A U s vs rm stat mu low hold q => by
  obtain ⟨u, v, rfl, q1, q2⟩ := q.two
  have e1 := q1.of_raw; subst e1
  refine append_own (LexAt.pb hold) (by simpa using hsz) (q2.toFlat rfl) fun h' ho k => ⟨lex_ext (by simp) k, LexAt.setPb ok.nd hold k ?_, .none⟩
  rw [dP, List.map_append]; exact ho
theorem lex_truth (hsz : x.pb.length ≤ 1000000) : TruthW (lexW hS a ok) x (.raw (.ref a.PB)) (!x.pb.isEmpty) := fun hold r q => by
  have e1 := r.of_raw; subst e1
  obtain ⟨vs, hp, rr⟩ := LexAt.pb hold
  have hl := rr.length
  have e : (!x.pb.isEmpty) = !vs.toArray.isEmpty := by
    rw [dP, List.length_map] at hl
    cases hx : x.pb <;> rw [hx] at hl <;> cases vs <;> simp at hl ⊢
  rw [e] at q
  refine wpAny_truthy_list hp.isList ?_ (q _)
  rw [dP, List.length_map] at hl
  simp; omega
theorem depthAll_strs (l : List Nat) : PyData.depthAll (pys (dC l)) ≤ 1 := by
  induction l with
  | nil => simp [dC, pys, PyData.depthAll]
  | cons c l ih => simp only [dC, List.map_cons, pys, py, PyData.depthAll, PyData.depth] at ih ⊢; omega
theorem lex_neSG (hc : isPys (dC x.sg) = true) : OpW (lexW hS a ok) prog w n x (Cmp .NotEq) [.raw (.ref a.SG), .list []] (.bool (!x.sg.isEmpty)) x := fun A U s vs rm stat mu low hold q => by
  obtain ⟨u, v, rfl, q1, q2⟩ := q.two
  have e1 := q1.of_raw; subst e1
  obtain ⟨ws, hp, rr⟩ := LexAt.sg hold
  have r1 : Rep Nowhere s.heap (.ref a.SG) (.list (dC x.sg)) := .list a.SG ws _ id hp rr.flat
  have r2 : Rep Nowhere s.heap v (.list []) := q2.move fun b o _ _ e => ⟨e, id⟩
  have key : Op hS prog w n (Cmp .NotEq) [.list (dC x.sg), .list []] (.bool (!x.sg.isEmpty)) := by
    cases hx : x.sg with
    | nil => exact op_dneS (by rfl) rfl (by decide)
    | cons c l =>
      have := op_dne (hS := hS) (prog := prog) (w := w) (n := n) (a := .list (dC (c :: l))) (b := .list []) ?_ rfl ?_
      · simpa [py, pys, PyData.eqv, PyData.eqvAll] using this
      · rw [hx] at hc; exact hc
      · have := depthAll_strs (c :: l)
        simp only [py, PyData.depth]; omega
  exact wpAny_mono (key A Nowhere s [.ref a.SG, v] rm stat (fun _ f => f.elim) (.cons r1 (.cons r2 .nil))) (fun v s' z => ⟨z.1.any, Wd.still0 _ hold stat z.1, by have := z.2.of_bool; subst this; exact .bool _⟩) fun _ _ f => f
theorem lex_lenSG (hsz : x.sg.length ≤ 1000000) : OpW (lexW hS a ok) prog w n x (Call (.builtin "len")) [.raw (.ref a.SG)] (.int x.sg.length) x := fun A U s vs rm stat mu low hold q => by
  obtain ⟨v, rfl, q1⟩ := q.one
  have e1 := q1.of_raw; subst e1
  obtain ⟨ws, hp, rr⟩ := LexAt.sg hold
  have r1 : Rep Nowhere s.heap (.ref a.SG) (.list (dC x.sg)) := .list a.SG ws _ id hp rr.flat
  have key := op_len (hS := hS) (prog := prog) (w := w) (n := n) (ds := dC x.sg) (by simp; omega)
  exact wpAny_mono (key A Nowhere s [.ref a.SG] rm stat (fun _ f => f.elim) (.cons r1 .nil)) (fun v s' z => ⟨z.1.any, Wd.still0 _ hold stat z.1, by obtain ⟨t, rfl⟩ := z.2.of_int; rw [List.length_map]; exact .int _ _⟩) fun _ _ f => f
theorem lex_meth {b : Addr} (hb : b = a.PB ∨ b = a.SG) {name : Str} {id : String} (sl : Slot "list" name id) (ht : typeOf (Value.builtin id) = pure (Value.type "method_descriptor")) : HasMethW (lexW hS a ok) x (.raw (.ref b)) name (.builtin id) := fun stat hold r q => by
  have e := r.of_raw
  subst e
  rcases hb with rfl | rfl
  · obtain ⟨vs, ⟨m, e⟩, _⟩ := LexAt.pb hold
    exact getMethod_list_of sl ht (items := vs.toArray) ⟨_, e, rfl, _, rfl⟩ ⟨_, e, rfl⟩ q
  · obtain ⟨vs, ⟨m, e⟩, _⟩ := LexAt.sg hold
    exact getMethod_list_of sl ht (items := vs.toArray) ⟨_, e, rfl, _, rfl⟩ ⟨_, e, rfl⟩ q
end
end
section
noncomputable def ifBody : Expr → Expr
  | .IfExp _ b _ _ => b
  | _ => .Constant .none 0 default
noncomputable def exPosC : Expr → Pos
  | .Constant _ _ p => p
  | _ => default
section
variable {hS : Heap} {prog : Program} {w : World} {n : Nat}
variable {a : LA} {ok : LA.Ok hS a} {x : Lx}
theorem LexAt.ext {s s' : Shared} (L : LexAt a x s) (e : Ext Nowhere s s') : LexAt a x s' := L.at fun b o _ q => e.keep b o id q
noncomputable abbrev lamEnv (L f c cl : Addr) : Env := newEnv (lamS lamE) L mainGlobals [("signs", cl)] (lamQ ++ ".<locals>.") (some f) (.ref c) none builtinsNs
theorem lam_bind (q : Str) (cl : List (Str × Addr)) (pm cdv ct : Value) (v : Value) : bindArgs (kla_fn "<lambda>" q (lamP lamE) (lamB lamE) (lamS lamE) cl pm cdv ct) ⟨[v], []⟩ = pure [((Str.ofString "size"), v)] := by
  kernel_rfl
set_option maxHeartbeats 1000000 in
theorem lex_lam (hl : hS.NoLimit) (hsz : x.sg.length ≤ 1000000) (hc : isPys (dC x.sg) = true) : OpW (lexW hS a ok) prog w (n + 1) x (Call (.ref a.FN)) [.int 1] (.str (S (x.sg.take 1))) { x with sg := x.sg.drop 1 } := fun A U s vs rm stat mu low hold q => by
  obtain ⟨v, rfl, q1⟩ := q.one
  obtain ⟨t, rfl⟩ := q1.of_int
  obtain ⟨pm, ctv, ho⟩ := LexAt.fn hold
  refine wpAny_call (kla_callFunE (by have := rm.depth; omega) ho rfl rfl rfl rfl (LexAt.code hold) ?_)
  refine Eq.mp (congrArg (fun z => wpAny _ _ z _ _ _) (lam_bind _ _ _ _ _ _).symm) ?_
  refine wpAny_pure (wpAny_newFunctionEnv (show ∀ y ∈ (lamS lamE).names, y.2 ≠ NameKind.cell by decide +kernel) (fun y hy => by simp at hy; subst hy; exact (show (lamS lamE).names.lookup (Str.ofString "size") = some NameKind.local by decide +kernel)) (fun h' hns hsb => ⟨?_, ?_⟩) rfl)
  · exact (hl.keeps stat).fresh _ hsb
  have hk₁ : ∀ b o, s.heap.get? b = some o → h'.get? b = some o := fun b o e => hsb.extBut b o (Nat.ne_of_lt (Heap.lt_size e)) (Heap.get?_push_of_some _ e)
  have x1 : Ext Nowhere s { s with heap := h', toks := s.toks + 1 } := .heap hk₁
  have L1 : LexAt a x { s with heap := h', toks := s.toks + 1 } := LexAt.ext hold x1
  have st1 : ∀ b o, hS.get? b = some o → h'.get? b = some o := fun b o e => hk₁ b o (stat b o e)
  refine kla_codeExpr ?_
  show wpAny _ _ (eval (lamB lamE) (lamEnv s.heap.objs.size a.FN a.CD a.CL)) _ _ { s with heap := h', toks := s.toks + 1 }
  have rm1 : Room (A.deeper (lamEnv s.heap.objs.size a.FN a.CD a.CL)) n := rm.deeper _
  generalize hA : A.deeper (lamEnv s.heap.objs.size a.FN a.CD a.CL) = A1 at rm1
  generalize hs1 : ({ s with heap := h', toks := s.toks + 1 } : Shared) = s1 at x1 L1
  have hns1 : s1.heap.Ns s.heap.objs.size (fun y => List.lookup y [((Str.ofString "size"), Value.int 1 t)].reverse) := by rw [← hs1]; exact hns
  have st2 : ∀ b o, hS.get? b = some o → s1.heap.get? b = some o := by rw [← hs1]; exact st1
  clear hns st1 hk₁ hsb hs1
  have hkf : (lamEnv s.heap.objs.size a.FN a.CD a.CL).scope.kind = .function := rfl
  have k1 : (lamEnv s.heap.objs.size a.FN a.CD a.CL).kindOf (Str.ofString "size") = some .local := (show (lamS lamE).names.lookup (Str.ofString "size") = some NameKind.local by decide +kernel)
  have k2 : (lamEnv s.heap.objs.size a.FN a.CD a.CL).kindOf (Str.ofString "signs") = some .free := (show (lamS lamE).names.lookup (Str.ofString "signs") = some NameKind.free by decide +kernel)
  have hns2 : s1.heap.Ns (lamEnv s.heap.objs.size a.FN a.CD a.CL).locals (fun y => List.lookup y [((Str.ofString "size"), Value.int 1 t)].reverse) := hns1
  have hcl : (lamEnv s.heap.objs.size a.FN a.CD a.CL).cells.lookup (Str.ofString "signs") = some a.CL := by
    show List.lookup (Str.ofString "signs") [(Str.ofString "signs", a.CL)] = _
    simp
  generalize lamEnv s.heap.objs.size a.FN a.CD a.CL = env at hkf k1 k2 hns2 hcl
  have fin : ∀ {v' : Value} {s' : Shared} {d : D} {x' : Lx}, Ext (lexW hS a ok).Mut s1 s' → LexAt a x' s' → Rep Nowhere s'.heap v' d → isFlat d = true → Ext (lexW hS a ok).Mut s s' ∧ (lexW hS a ok).holds x' s' ∧ Rep U s'.heap v' d := fun e h r f => ⟨x1.any.trans e, h, (r.toFlat (h' := s.heap) f).flat⟩
  refine IfExp_ ?_
  refine Eq.mp (congrArg (fun z => wpAny _ _ z _ _ _) (isTrue_And _ _ _ _ _).symm) ?_
  refine wpAny_bind (wpAny_isTrue_Compare1 (wpAny_Name (wpAny_loadName_local (v := Value.int 1 t) hkf k1 hns2 (by simp) (wpAny_Constant_int ?_)) (by decide +kernel)) (by with_unfolding_all rfl))
  have x2 : Ext Nowhere s1 { s1 with toks := s1.toks + 1 } := .tok
  refine wpAny_mono (op_eq (hS := hS) (n := n) A1 Nowhere _ [_, _] rm1 (fun b o e => x2.keep b o id (st2 b o e)) (fun _ f => f.elim) (.cons (.int _ _) (.cons (.int _ _) .nil))) (fun c s3 z3 => ?_) fun _ _ f => f.elim
  rw [z3.2.of_bool]
  refine wpAny_truthy_bool ?_
  have x3 := x2.trans z3.1
  refine wpAny_bind (wpAny_isTrue_Compare1 (wpAny_Name (wpAny_loadName_free hkf k2 hcl (LexAt.ext L1 x3).cell (List_ (args_nil ?_)) (by decide +kernel)) (by decide +kernel)) (by with_unfolding_all rfl))
  refine wpAny_newObj_type ?_ (by size_fits)
  have x4 : Ext Nowhere s1 { s3 with heap := s3.heap.push { cls := .type "list", data := .seq #[] } } := x3.trans (ext_push _)
  have L4 := LexAt.ext L1 x4
  refine wpAny_mono (lex_neSG (ok := ok) (n := n) hc A1 (fun b => b ∈ [93, a.LX, a.DX, a.PB, a.SG]) _ [_, _] rm1 (fun b o e => x4.keep b o id (st2 b o e)) (fun _ m => m) (fun b m => (lexW hS a ok).alive L4 b ((lexW hS a ok).mutF b m)) L4 (.cons (.raw _) (.cons (.list _ [] [] ?_ ⟨_, Heap.get?_push_size _ rfl⟩ .nil) .nil))) (fun c s5 z5 => ?_) fun _ _ f => f.elim
  · exact fun m => by obtain ⟨o, e⟩ := (lexW hS a ok).alive (LexAt.ext L1 x3) _ ((lexW hS a ok).mutF _ m); exact Nat.lt_irrefl _ (Heap.lt_size e)
  rw [z5.2.2.of_bool]
  refine wpAny_truthy_bool ?_
  have x5 : Ext (lexW hS a ok).Mut s1 s5 := x4.any.trans z5.1
  have L5 : LexAt a x s5 := z5.2.1
  obtain ⟨line, pb, sg⟩ := x
  cases sg with
  | nil =>
    refine wpAny_pure ?_
    rw [if_neg (by decide)]
    refine Calls.Constant_str (fin (x5.trans .tok) (LexAt.ext L5 .tok) (.str _ _) rfl)
  | cons c l =>
    refine wpAny_pure ?_
    rw [if_pos rfl]
    refine MethodCall_ (pl := _) (wpAny_Name (wpAny_loadName_free hkf k2 hcl L5.cell ?_ (by decide +kernel)) (by decide +kernel)) (by rfl)
    have st5 : ∀ b o, hS.get? b = some o → s5.heap.get? b = some o := fun b o e => x5.keep b o ((lexW hS a ok).apart b o e) (st2 b o e)
    refine lex_meth (ok := ok) (.inr rfl) PySem.F.slot_list_pop PySem.F.type_list_pop st5 L5 (.raw (U := Nowhere) _) ?_
    refine Calls.callWith_builtin rfl (Calls.evalArgs_plain (args_cons (e := .Constant (.int 0) 0 (exPosC (argE (ifBody (lamB lamE))))) (rest := []) (env := env) (wpAny_Constant_int (args_nil ?_)) rfl))
    have x6 : Ext (lexW hS a ok).Mut s1 { s5 with toks := s5.toks + 1 } := x5.trans .tok
    have L6 := LexAt.ext L5 (.tok (tk := s5.toks + 1))
    refine wpAny_mono (lex_popSG (ok := ok) (n := n) rfl (by simp at hsz; omega) A1 (fun b => b ∈ [93, a.LX, a.DX, a.PB, a.SG]) _ [_, _] rm1 st5 (fun _ m => m) (fun b m => (lexW hS a ok).alive L6 b ((lexW hS a ok).mutF b m)) L6 (.cons (.raw _) (.cons (.int _ _) .nil))) (fun v6 s7 z7 => ?_) fun _ _ f => f.elim
    exact fin (x6.trans z7.1) z7.2.1 (z7.2.2.toFlat (h' := s7.heap) rfl).flat rfl
end
end
section
section
variable {hS : Heap} {prog : Program} {w : World} {n : Nat}
variable {W : Wd hS} {sc : Scope} {vars : List Str} {ρ ρ' : List (Option D)} {st st₁ st₂ st₃ : W.σ}
/-- an attribute is stored -/
noncomputable def SetW (W : Wd hS) (st : W.σ) (d0 : D) (name : Str) (d : D) (st' : W.σ) : Prop :=
  ∀ {prog : Program} {w : World} {A : Around} {U : Addr → Prop} {s : Shared} {v u : Value} {Q : Unit → Shared → Prop} {E : Value → Shared → Prop}, (∀ a o, hS.get? a = some o → s.heap.get? a = some o) → W.holds st s → Rep U s.heap v d0 → Rep U s.heap u d →
    (∀ s', Ext W.Mut s s' → W.holds st' s' → Q () s') → wpAny (model prog w) A (setAttr v name u) Q E s
theorem EX.augAttr {o value : Expr} {attr : Str} {tpos pos : Pos} {op : Operator} {rest : List Stmt} {d0 d1 d2 d3 : D} {out : Out W.σ} (ho : EV prog w n W sc vars ρ st o d0 st₁) (m : HasAttrW W st₁ d0 attr d1) (hv : EV prog w n W sc vars ρ st₁ value d2 st₂)
    (hop : Op hS prog w n (Inp op) [d1, d2] d3) (sa : SetW W st₂ d0 attr d3 st₃) (hr : EX prog w n W sc vars ρ st₃ rest out) : EX prog w n W sc vars ρ st (.AugAssign (.Attribute o attr tpos) op value pos :: rest) out := .step (fun A env U s r f I hs => by
  refine wpAny_AugAssign_AttributeAny (wpAny_mono (ho A env U s r f I) (fun ov s1 q1 => ?_) fun _ _ x => x)
  have I1 := I.step q1.1 q1.2.1
  refine m I1.static q1.2.1 q1.2.2 fun old tk hold => ?_
  have x1 : Ext W.Mut s1 { s1 with toks := tk } := .tok
  have I2 : Stand W U env vars ρ st₁ { s1 with toks := tk } := I1.step0 .tok
  refine wpAny_mono (hv A env U _ r f I2) (fun v s3 q3 => ?_) fun _ _ x => x
  have I3 := I2.step q3.1 q3.2.1
  have e13 := x1.trans q3.1
  refine wpAny_mono (hop A U s3 [old, v] r I3.static I3.low (.cons (Rep.ext (s := { s1 with toks := tk }) hold q3.1 I.mutU) (.cons q3.2.2 .nil))) (fun nw s4 q4 => ?_) fun _ _ x => x
  have I4 := I3.step0 q4.1
  refine sa I4.static I4.hold ((q1.2.2.ext e13 I.mutU).ext0 q4.1) q4.2 fun s5 x5 h5 => ?_
  exact ⟨rfl, may_mut (((q1.1.trans e13).trans q4.1.any).trans x5), I4.step x5 h5⟩) hr

variable {a : LA} {ok : LA.Ok hS a} {x : Lx}
theorem LexAt.setLine {s s' : Shared} {m : Str → Option Value} {i : Int} (nd : a.all.Nodup) (L : LexAt a x s) (k : ∀ b o, b ≠ a.LX → b ≠ a.DX → s.heap.get? b = some o → s'.heap.get? b = some o) (I1 : s'.heap.InstFk a.LX 87 m) (M1 : LexM a { x with line := i } m)
    (hd : ∀ o, s'.heap.get? a.LX = some o → o.dict = some a.DX) : LexAt a { x with line := i } s' := by
  have kk : ∀ b j, j ≠ 1 → j ≠ 2 → a.all[j]? = some b → ∀ o, s.heap.get? b = some o → s'.heap.get? b = some o := fun b j h1 h2 hb o => k b o (ndNe nd j 1 h1 hb rfl) (ndNe nd j 2 h2 hb rfl)
  obtain ⟨m', I', M'⟩ := L.str
  obtain ⟨o93, e93⟩ := L.tab
  obtain ⟨pm, ctv, eF⟩ := L.fn
  exact ⟨⟨o93, kk 93 0 (by decide) (by decide) rfl _ e93⟩, ⟨m, I1, M1⟩, hd,
    ⟨m', instFk_at I' L.sdict (kk _ 4 (by decide) (by decide) rfl) (kk _ 5 (by decide) (by decide) rfl), M'⟩, dict_at (instFk_alive I' L.sdict).1 L.sdict (kk _ 4 (by decide) (by decide) rfl),
    ⟨pm, ctv, kk _ 6 (by decide) (by decide) rfl _ eF⟩, codeRec_at L.code (kk _ 9 (by decide) (by decide) rfl), isCell_at L.cell (kk _ 7 (by decide) (by decide) rfl), L.sg.at (kk _ 8 (by decide) (by decide) rfl), L.pb.at (kk _ 3 (by decide) (by decide) rfl)⟩
theorem set_line (B : LexBase hS) {i : Int} : SetW (lexW hS a ok) x (.raw (.ref a.LX)) "lineno" (.int i) { x with line := i } := fun {prog w A U s v u Q E} stat hold r1 r2 q => by
  have e := r1.of_raw; subst e
  obtain ⟨t0, rfl⟩ := r2.of_int
  obtain ⟨m, I, M⟩ := LexAt.lex hold
  obtain ⟨mN, hn, h1, h2, h3, h4, hno⟩ := B.ns
  obtain ⟨h, g, dr, t, os⟩ := s
  have hne : a.LX ≠ 87 := fun z => by have := ok.out a.LX (by simp [LA.all]); rw [z, B.cls] at this; cases this
  refine store_attrFk (ns := lexF) F.store_object (stat _ _ B.cls) (hn.keeps stat) (hno _ (by decide +kernel)) (hno _ (by decide +kernel)) lo_lineno hne I (fun h' tk' I' keep same => ?_) M.only (by decide)
  have hld := LexAt.ldict hold
  have keep' : ∀ b o, b ≠ a.LX → b ≠ a.DX → h.get? b = some o → h'.get? b = some o := fun b o n1 n2 e => keep b o n1 (fun o₀ dx e0 ed => by
    have := hld o₀ e0
    rw [ed] at this; cases this; exact n2) e
  have x1 : Ext (lexW hS a ok).Mut ⟨h, g, dr, t, os⟩ ⟨h', g, dr, tk', os⟩ := ⟨fun b o nm e => keep' b o (fun z => nm (by rw [z]; show _ ∈ [93, a.LX, a.DX, a.PB, a.SG]; simp)) (fun z => nm (by rw [z]; show _ ∈ [93, a.LX, a.DX, a.PB, a.SG]; simp)) e, rfl, Nat.le_refl _, fun _ _ => rfl, fun b => b⟩
  have ne1 : (Str.ofString "instream") ≠ Str.ofString "lineno" := by decide +kernel
  have ne2 : (Str.ofString "whitespace") ≠ Str.ofString "lineno" := by decide +kernel
  have ne3 : (Str.ofString "pushback") ≠ Str.ofString "lineno" := by decide +kernel
  refine q _ x1 (LexAt.setLine ok.nd hold keep' I' ⟨⟨t0, by simp⟩, ?_, ?_, ?_, ?_⟩ ?_)
  · show (if _ then _ else _) = _
    rw [if_neg ne1]; exact M.ins
  · obtain ⟨t', e⟩ := M.ws
    refine ⟨t', ?_⟩
    show (if _ then _ else _) = _
    rw [if_neg ne2]; exact e
  · show (if _ then _ else _) = _
    rw [if_neg ne3]; exact M.pb
  · intro y hy
    have hy' : (if y = Str.ofString "lineno" then some (Value.int i t0) else m y) ≠ none := hy
    by_cases hq : y = Str.ofString "lineno"
    · subst hq; simp
    · rw [if_neg hq] at hy'; exact M.only y hy'
  · obtain ⟨o₀, ho₀, _⟩ := id I
    obtain ⟨o₁, ho₁, _, _, _, hdx⟩ := same o₀ ho₀
    intro o ho
    have : h'.get? a.LX = some o := ho
    rw [ho₁] at this; cases this
    exact hdx _ (hld o₀ ho₀)
noncomputable def readLx (x : Lx) : Lx := { line := if x.sg.head? = some 10 then x.line + 1 else x.line, pb := x.pb, sg := x.sg.drop 1 }
theorem fn_notMut : ¬ (lexW hS a ok).Mut a.FN := fun m => by
  have m' : a.FN ∈ [93, a.LX, a.DX, a.PB, a.SG] := m
  simp only [List.mem_cons, List.not_mem_nil, or_false] at m'
  have nd := ok.nd
  rcases m' with e | e | e | e | e
  · exact ndNe nd 6 0 (by decide) rfl rfl e
  · exact ndNe nd 6 1 (by decide) rfl rfl e
  · exact ndNe nd 6 2 (by decide) rfl rfl e
  · exact ndNe nd 6 3 (by decide) rfl rfl e
  · exact ndNe nd 6 8 (by decide) rfl rfl e
set_option maxHeartbeats 1000000 in
theorem w_read (hl : hS.NoLimit) (B : LexBase hS) (hsz : x.sg.length ≤ 1000000) (hc : isPys (dC x.sg) = true) :
    EX prog w (n + 1) (lexW hS a ok) (fdScope (mth 1)) ["self", "ch"] [some (.raw (.ref a.LX)), none] x (fdBody (mth 1)) (.ret (.str (S (x.sg.take 1))) (readLx x)) := by
  refine aSet (d := .str (S (x.sg.take 1))) (st₁ := { x with sg := x.sg.drop 1 }) (EV.fnW (st₁ := x) (st₂ := x) (EV.attrW (st₁ := x) (aN .here ⟨by decide +kernel⟩) (attr_ins B)) (fn_read B) fn_obj fn_notMut (.cons (EV.int 1) .nil fun _ => rfl) (lex_lam hl hsz hc)) (.there .here) ?_ ⟨by decide +kernel⟩ ⟨fun _ _ => rfl⟩
  refine aIf (b := x.sg.take 1 == [10]) (st₁ := { x with sg := x.sg.drop 1 }) (tC (aN (.there .here) ⟨by decide +kernel⟩) (EV.str [10]) op_seq ⟨rfl⟩) (fun h => ?_) (fun h => ?_)
  · have e : readLx x = { x with sg := x.sg.drop 1, line := x.line + 1 } := by
      unfold readLx
      cases hx : x.sg with
      | nil => rw [hx] at h; simp at h
      | cons c l => rw [hx] at h; simp at h; simp [h]
    rw [e]
    refine EX.augAttr (st₁ := { x with sg := x.sg.drop 1 }) (st₂ := { x with sg := x.sg.drop 1 }) (d0 := .raw (.ref a.LX)) (aN .here ⟨by decide +kernel⟩) (attr_line B) (EV.int 1) op_iadd (set_line B) ?_
    exact aRet (aN (.there .here) ⟨by decide +kernel⟩) rfl
  · have e : readLx x = { x with sg := x.sg.drop 1 } := by
      unfold readLx
      cases hx : x.sg with
      | nil => simp
      | cons c l => rw [hx] at h; simp at h; simp [h]
    rw [e]
    exact aRet (aN (.there .here) ⟨by decide +kernel⟩) rfl
theorem k_read (hl : hS.NoLimit) (B : LexBase hS) (hsz : x.sg.length ≤ 1000000) (hc : isPys (dC x.sg) = true) : OpC (lexW hS a ok) prog w (n + 2) x 70 [.raw (.ref a.LX)] (.str (S (x.sg.take 1))) (readLx x) :=
  fun_okLC 1 hl B.read rfl rfl (by decide +kernel) (w_read hl B hsz hc)
theorem c_read (hl : hS.NoLimit) (B : LexBase hS) (hsz : x.sg.length ≤ 1000000) (hc : isPys (dC x.sg) = true) : OpW (lexW hS a ok) prog w (n + 2) x (Call (.ref 70)) [.raw (.ref a.LX)] (.str (S (x.sg.take 1))) (readLx x) :=
  fun_okLW 1 hl B.read rfl rfl (by decide +kernel) (w_read hl B hsz hc)
end
end
section
/-! the iterator over a callable -/
theorem ci_slot_next : Slot "callable_iterator" "__next__" "callable_iterator.__next__" :=
  .of (owner := "callable_iterator") (n := "__next__") (by rw [typeLookup_type, builtinLookup_eq_fast]; kernel_rfl) (by decide +kernel) (by decide +kernel) (by decide +kernel)
    (by first | exact .inl (by decide +kernel) | exact .inr (by decide +kernel)) (by rw [isSubtype_type]; kernel_rfl)
theorem ci_entry_next : entryFor table "callable_iterator.__next__" = some Builtin.«callable_iterator.__next__» := entryFor_of_tree (by kernel_rfl)
theorem ci_args_next (a : Value) : argsOk "callable_iterator.__next__" ⟨[a], []⟩ := by unfold argsOk; kernel_rfl
theorem ci_slot_iter : Slot "callable_iterator" "__iter__" "callable_iterator.__iter__" :=
  .of (owner := "callable_iterator") (n := "__iter__") (by rw [typeLookup_type, builtinLookup_eq_fast]; kernel_rfl) (by decide +kernel) (by decide +kernel) (by decide +kernel)
    (by first | exact .inl (by decide +kernel) | exact .inr (by decide +kernel)) (by rw [isSubtype_type]; kernel_rfl)
theorem ci_entry_iter : entryFor table "callable_iterator.__iter__" = some Builtin.«dict_keyiterator.__iter__» :=
  entryFor_alias (id' := "dict_keyiterator.__iter__") (by kernel_rfl) rfl (by decide +kernel) (by kernel_rfl)
theorem ci_args_iter (a : Value) : argsOk "callable_iterator.__iter__" ⟨[a], []⟩ := by unfold argsOk; kernel_rfl
theorem iter_entry : entryFor table "iter" = some Builtin.«iter» := entryFor_of_tree (by kernel_rfl)
theorem iter_args (a b : Value) : argsOk "iter" ⟨[a, b], []⟩ := by unfold argsOk; kernel_rfl
theorem method_call_lk : ∃ v, typeLookup (.type "method") "__call__" = pure (some v) := ⟨.builtin "method.__call__", by rw [typeLookup_type, builtinLookup_eq_fast]; kernel_rfl⟩
noncomputable abbrev ciRun (BM : Addr) (t : Tok) : Obj := { cls := .type "callable_iterator", data := .fields #[.ref BM, .str (S []) t, .bool false] }
noncomputable abbrev ciEnd : Obj := { cls := .type "callable_iterator", data := .fields #[.none, .none, .bool true] }
section
variable {prog : Program} {w : World} {A : Around} {E : Value → Shared → Prop} {s : Shared} {I BM : Addr}
theorem ci_iter {o : Obj} {Q : Value → Shared → Prop} (ho : s.heap.get? I = some o) (hc : o.cls = .type "callable_iterator") (h : Q (.ref I) s) : wpAny (model prog w) A (pyIter (.ref I)) Q E s := by
  have hT : s.TypeIs (.ref I) "callable_iterator" := ⟨o, ho, hc⟩
  refine wpAny_pyIter_slot hT ci_slot_iter (wpAny_call_entry ci_slot_iter hT ci_entry_iter ?_ (ci_args_iter _))
  show wpAny _ _ (ret (.ref I)) _ _ s
  exact wpAny_pure ⟨_, rfl, "callable_iterator", _, hT, ci_slot_next.lookup, h⟩
theorem call_iter2 {f self : Value} {t : Tok} {Q : Value → Shared → Prop} (hb : s.heap.get? BM = some (methodObj f self)) (h : Q (.ref s.heap.objs.size) { s with heap := s.heap.push (ciRun BM t) }) :
    wpAny (model prog w) A (call (.builtin "iter") [.ref BM, .str (S []) t]) Q E s := by
  refine Calls.call_function_entry (by decide +kernel) (by decide +kernel) iter_entry (iter_args _ _) ?_
  unfold Builtin.«iter»
  refine wpAny_bind (m := PySem.someArgs "iter" 1 2 _) (wpAny_pure ?_)
  obtain ⟨v, hv⟩ := method_call_lk
  refine wpAny_bind (wpAny_specialOf (T := "method") ⟨_, hb, rfl⟩ hv ?_)
  refine wpAny_bind (wpAny_rule (wpAny_bind ?_))
  simp only [newFields]
  exact wpAny_newObj_type (wpAny_pure ⟨_, rfl, h⟩) (by size_fits)
theorem wpAny_callBorrowed {f : Value} {pos : List Value} {Q : Value → Shared → Prop} (hc : codeAny (model prog w) A (.call f ⟨pos, []⟩) (fun r s' => match r with | .ok (.ret v) => Q v s' | .ok _ => False | .error e => E e s') s) :
    wpAny (model prog w) A (callBorrowed f pos) Q E s := fun Γ p hΓ => by
  have h := codeAny_mono (R' := fun r s' => Sem.wp (model prog w) Γ ((match r with | .ok (.ret v) => Sem.pure v | .ok _ => .unsupported "internal:call-without-return-value" | .error e => .raise e : Sem Value)) (fun a _ s' => Q a s') (fun e _ s' => E e s') p s') hc (by
    intro r s' hr
    cases r with
    | error e => exact hr
    | ok fl =>
      cases fl with
      | ret v => exact hr
      | _ => exact hr.elim)
  exact h (Γ.enter (.call f ⟨pos, []⟩) none p) p rfl (hΓ.enter _ none p (by intro x; cases x))
theorem borrows_bound {f : Addr} {self : Value} {o : Obj} {fd : FuncData} {Q : Bool → Shared → Prop} (hB : s.heap.get? BM = some (methodObj (.ref f) self)) (ho : s.heap.get? f = some o) (hd : o.data = .func fd) (h : Q true s) : wpAny (model prog w) A (borrowsExactly (.ref BM)) Q E s := by
  unfold borrowsExactly
  refine wpAny_bind (wpAny_load hB ?_)
  show wpAny _ _ (load f >>= _) _ _ s
  refine wpAny_bind (wpAny_load ho ?_)
  rw [hd]
  exact wpAny_pure h
theorem ci_next {LX : Addr} {t : Tok} {o70 : Obj} {fd : FuncData} {Q : Option Value → Shared → Prop} (hh : A.handled = none) (hI : s.heap.get? I = some (ciRun BM t)) (hB : s.heap.get? BM = some (methodObj (.ref 70) (.ref LX))) (ho : s.heap.get? 70 = some o70) (hd : o70.data = .func fd)
    (hcall : codeAny (model prog w) A.in1 (.call (.ref 70) ⟨[.ref LX], []⟩) (fun r s1 => match r with
      | .ok (.ret v) => ∃ c t', v = .str (S c) t' ∧ s1.heap.get? I = some (ciRun BM t) ∧ s1.heap.get? BM = some (methodObj (.ref 70) (.ref LX)) ∧ s1.heap.get? 70 = some o70 ∧ (c ≠ [] → Q (some v) s1) ∧
          (c = [] → ∀ h', (∀ b o, b ≠ I → s1.heap.get? b = some o → h'.get? b = some o) → h'.get? I = some ciEnd → Q none { s1 with heap := h' })
      | .ok _ => False | .error _ => False) s) : wpAny (model prog w) A (pyNext (.ref I)) Q E s := by
  have hT : s.TypeIs (.ref I) "callable_iterator" := ⟨_, hI, rfl⟩
  unfold pyNext
  refine wpAny_bind (wpAny_attempt (wpAny_callSpecial?_slot (name := Str.ofString "__next__") hT ci_slot_next (wpAny_call_entry ci_slot_next hT ci_entry_next ?_ (ci_args_next _))))
  unfold Builtin.«callable_iterator.__next__»
  refine wpAny_bind (m := PySem.slotArgs "__next__" 0 _) (wpAny_pure ?_)
  show wpAny _ _ (field (.ref I) 2 >>= _) _ _ s
  refine wpAny_bind (wpAny_field hI rfl (x := .bool false) rfl ?_)
  rw [if_neg (by decide)]
  show wpAny _ _ (field (.ref I) 0 >>= _) _ _ s
  refine wpAny_bind (wpAny_field hI rfl (x := .ref BM) rfl ?_)
  refine wpAny_bind (wpAny_attempt ?_)
  unfold callOutOfASlot
  refine wpAny_bind (borrows_bound hB ho hd ?_)
  rw [if_pos rfl]
  refine wpAny_callBorrowed (method_call hB ?_)
  refine codeAny_mono hcall fun r s1 hr => ?_
  cases r with
  | error e => exact hr.elim
  | ok fl =>
    cases fl with
    | ret v =>
      obtain ⟨c, t', rfl, hI1, hB1, ho1, h1, h2⟩ := hr
      show wpAny _ _ (field (.ref I) 2 >>= _) _ _ s1
      refine wpAny_bind (wpAny_field hI1 rfl (x := .bool false) rfl ?_)
      rw [if_neg (by decide)]
      show wpAny _ _ (field (.ref I) 1 >>= _) _ _ s1
      refine wpAny_bind (wpAny_field hI1 rfl (x := .str (S []) t) rfl ?_)
      refine wpAny_bind (wpAny_holding (wpAny_eqBool_str ?_))
      by_cases hc : c = []
      · subst hc
        rw [if_neg (by simp)]
        refine wpAny_bind (wpAny_rule ?_)
        refine wpAny_bind (m := field (.ref I) 0 >>= _) ?_
        refine wpAny_bind (wpAny_field hI1 rfl (x := .ref BM) rfl ?_)
        unfold slotLetsGo
        refine wpAny_bind (m := borrowsExactly (.ref BM) >>= _) (wpAny_bind (borrows_bound hB1 ho1 hd ?_))
        rw [if_pos rfl]
        refine wpAny_pure ?_
        refine wpAny_bind (wpAny_setField_rec hI1 (by simp) fun ha gA sA => ?_)
        refine wpAny_bind (wpAny_setField_rec gA (by simp) fun hb gB sB => ?_)
        refine wpAny_setField_rec gB (by simp) fun hc gC sC => ?_
        have keep : ∀ b o, b ≠ I → s1.heap.get? b = some o → hc.get? b = some o := fun b o nb e => by rw [sC.2 b nb, sB.2 b nb, sA.2 b nb]; exact e
        show wpAny _ _ (newExc (.type "StopIteration") [] >>= _) _ _ _
        refine wpAny_bind ?_
        simp only [newExc, newTuple]
        refine wpAny_bind (wpAny_newObj_type ?_ (by size_fits))
        refine wpAny_bind (m := firstArgMember _ _) (wpAny_of_eq (a := Value.none) (by first | rfl | (simp only [firstArgMember]; rfl)) ?_)
        refine wpAny_newObj_type ?_ (by size_fits)
        simp only [raiseNew]
        refine wpAny_bind (wpAny_bind (wpAny_handled ?_))
        rw [show A.in1.handled = none from hh]
        refine wpAny_pure (wpAny_throw ?_)
        show wpAny _ _ (isInstance _ _ >>= _) _ _ _
        refine wpAny_bind (wpAny_isInstance (T := "StopIteration") (b := true) ⟨_, Heap.get?_push_size _ rfl, rfl⟩ isSubtype_stop ?_)
        exact wpAny_pure (h2 rfl _ (fun b o nb e => Heap.get?_push_of_some _ (Heap.get?_push_of_some _ (keep b o nb e))) (Heap.get?_push_of_some _ (Heap.get?_push_of_some _ gC)))
      · rw [if_pos (by simp; intro q; exact hc (S_inj q.symm))]
        exact wpAny_pure ⟨_, rfl, wpAny_pure (h1 hc)⟩
    | _ => exact hr.elim
end
end
section
section
variable {prog : Program} {w : World} {A : Around} {E : Value → Shared → Prop} {s : Shared} {I BM : Addr}
theorem ci_next_end {Q : Option Value → Shared → Prop} (hh : A.handled = none) (hI : s.heap.get? I = some ciEnd) (h : ∀ h', (∀ b o, s.heap.get? b = some o → h'.get? b = some o) → Q none { s with heap := h' }) : wpAny (model prog w) A (pyNext (.ref I)) Q E s := by
  have hT : s.TypeIs (.ref I) "callable_iterator" := ⟨_, hI, rfl⟩
  unfold pyNext
  refine wpAny_bind (wpAny_attempt (wpAny_callSpecial?_slot (name := Str.ofString "__next__") hT ci_slot_next (wpAny_call_entry ci_slot_next hT ci_entry_next ?_ (ci_args_next _))))
  unfold Builtin.«callable_iterator.__next__»
  refine wpAny_bind (m := PySem.slotArgs "__next__" 0 _) (wpAny_pure ?_)
  show wpAny _ _ (field (.ref I) 2 >>= _) _ _ s
  refine wpAny_bind (wpAny_field hI rfl (x := .bool true) rfl ?_)
  rw [if_pos (by decide)]
  refine wpAny_bind (wpAny_rule ?_)
  refine wpAny_bind ?_
  show wpAny _ _ (newExc (.type "StopIteration") [] >>= _) _ _ _
  refine wpAny_bind ?_
  simp only [newExc, newTuple]
  refine wpAny_bind (wpAny_newObj_type ?_ (by size_fits))
  refine wpAny_bind (m := firstArgMember _ _) (wpAny_of_eq (a := Value.none) (by first | rfl | (simp only [firstArgMember]; rfl)) ?_)
  refine wpAny_newObj_type ?_ (by size_fits)
  simp only [raiseNew]
  refine wpAny_bind (wpAny_bind (wpAny_handled ?_))
  rw [show A.in1.handled = none from hh]
  refine wpAny_pure (wpAny_throw ?_)
  show wpAny _ _ (isInstance _ _ >>= _) _ _ _
  refine wpAny_bind (wpAny_isInstance (T := "StopIteration") (b := true) ⟨_, Heap.get?_push_size _ rfl, rfl⟩ isSubtype_stop ?_)
  exact wpAny_pure (h _ (fun b o e => Heap.get?_push_of_some _ (Heap.get?_push_of_some _ e)))
end
section
variable {hS : Heap} {prog : Program} {w : World} {n : Nat}
variable {W : Wd hS} {sc : Scope} {vars : List Str} {ρ ρ' : List (Option D)} {st st₁ st₂ st₃ : W.σ}
/-- a for loop over an iterator that the world knows -/
theorem EX.forN {β : Type} {target iter : Expr} {body rest : List Stmt} {pos : Pos} {I : Addr} (tx : List Str) (μ : β → Nat) (Ok : β → Prop) (ρof : β → List (Option D)) (sof : β → W.σ) (nx : β → Option (D × W.σ)) (se : β → W.σ) (ρ1 : β → D → List (Option D)) (Res : β → Out W.σ) (b₀ : β)
    (hsrc : EV prog w n W sc vars ρ st iter (.raw (.ref I)) (sof b₀)) (hρ : Less (ρof b₀) ρ) (h0 : Ok b₀) (htx : ∀ x ∈ tx, x ∈ vars)
    (hpy : ∀ {A : Around} {s : Shared} {st : W.σ} {Q : Value → Shared → Prop}, W.holds st s → Q (.ref I) s → wpAny (model prog w) A (pyIter (.ref I)) Q (fun _ _ => False) s)
    (hgo : ∀ {A : Around} {s : Shared} {st : W.σ} {t : Expr} {v : Value} {Q : Unit → Shared → Prop}, W.holds st s → Q () s → wpAny (model prog w) A (letOwnedTupleGo t (.ref I) v) Q (fun _ _ => False) s)
    (hnext : ∀ b, Ok b → ∀ {A : Around} {U : Addr → Prop} {s : Shared} {Q : Option Value → Shared → Prop}, Room A n → (∀ a o, hS.get? a = some o → s.heap.get? a = some o) → (∀ a, W.Mut a → U a) → (∀ a, U a → ∃ o, s.heap.get? a = some o) → W.holds (sof b) s →
      (nx b = none → ∀ s', Ext W.Mut s s' → W.holds (se b) s' → Q none s') → (∀ d st', nx b = some (d, st') → ∀ v s', Ext W.Mut s s' → W.holds st' s' → Rep U s'.heap v d → Q (some v) s') → wpAny (model prog w) A (pyNext (.ref I)) Q (fun _ _ => False) s)
    (hturn : ∀ b d st', Ok b → nx b = some (d, st') → AS prog w W sc vars tx target d (ρof b) (ρ1 b d) ∧ ((∃ b' ob ρ', Ok b' ∧ μ b' < μ b ∧ EX prog w n W sc vars (ρ1 b d) st' body ob ∧ Goes ob ρ' (sof b') ∧ Less (ρof b') ρ' ∧ Res b' = Res b) ∨
      (∃ d' st'', EX prog w n W sc vars (ρ1 b d) st' body (.ret d' st'') ∧ Res b = .ret d' st'')))
    (hend : ∀ b, Ok b → nx b = none → EX prog w n W sc vars (ρof b) (se b) rest (Res b))
    (hfs : ∀ env x, foldedSetIterable iter env x = pure x := by intro _ _; rfl) :
    EX prog w n W sc vars ρ st (.For target iter body [] pos :: rest) (Res b₀) := fun A env U s rm ft I0 hs => by
  refine wpAny_execs_cons (wpAny_For (hs := hfs env) (wpAny_mono (hsrc A env U s rm ft I0) (fun xv s1 q1 => ?_) fun _ _ x => x.elim))
  have e := q1.2.2.of_raw
  subst e
  have I1 := I0.step q1.1 q1.2.1
  refine hpy I1.hold ?_
  let J : Nat → Shared → Prop := fun k s' => ∃ b, k = μ b ∧ Ok b ∧ Res b = Res b₀ ∧ Ext (May W env vars) s s' ∧ Stand W U env vars (ρof b) (sof b) s'
  refine codeAny_forLoop_any J ?_ (μ b₀) ⟨b₀, rfl, h0, rfl, may_mut q1.1, I1.forget hρ.spec⟩
  rintro k s' ⟨b, rfl, ok, hres, xc, J1⟩
  refine false_any (hnext b ok rm J1.static J1.mutU J1.low J1.hold (fun hn s2 x2 h2 => ?_) fun d st' hn v s2 x2 h2 r2 => ?_)
  · refine wpAny_execs_nil ?_
    have J2 : Stand W U env vars (ρof b) (se b) s2 := J1.step x2 h2
    refine wpAny_mono (hend b ok hn A env U _ rm ft J2 hs) (fun fl s3 q => ?_) fun _ _ x => x
    exact ⟨(xc.trans (may_mut x2)).trans q.1, hres ▸ q.2⟩
  · obtain ⟨hA, ht⟩ := hturn b d st' ok hn
    have J2 : Stand W U env vars (ρof b) st' s2 := J1.step x2 h2
    refine hgo h2 ?_ |> fun z => wpAny_mono z (fun _ _ q => q) fun _ _ f => f.elim
    refine wpAny_mono (hA rm.handled ft J2 (fun y hy => hs y (htx y hy)) r2) (fun _ s3 q3 => ?_) fun _ _ f => f.elim
    obtain ⟨xa, J3⟩ := q3
    have xc3 : Ext (May W env vars) s s3 := (xc.trans (may_mut x2)).trans (xa.mono fun a o => .inr (Own.mono htx a o))
    rcases ht with ⟨b', ob, ρ', ok', hlt, hex, hg, hw, hr'⟩ | ⟨d', st'', hex, hr'⟩
    · refine wpAny_mono (hex A env U s3 rm ft J3 hs) (fun fl s4 q4 => ?_) fun _ _ f => f.elim
      obtain ⟨xb, pb⟩ := q4
      have nextJ : Stand W U env vars ρ' (sof b') s4 → ∃ m, m < μ b ∧ J m s4 := fun I4 => ⟨μ b', hlt, b', rfl, ok', hr'.trans hres, xc3.trans xb, I4.forget hw.spec⟩
      rcases hg with rfl | rfl
      · obtain ⟨rfl, I4⟩ := pb; exact nextJ I4
      · obtain ⟨rfl, I4⟩ := pb; exact nextJ I4
    · refine wpAny_mono (hex A env U s3 rm ft J3 hs) (fun fl s4 q4 => ?_) fun _ _ f => f.elim
      obtain ⟨xb, v', rfl, hh, hr⟩ := q4
      rw [hres] at hr'
      rw [hr']
      exact ⟨xc3.trans xb, v', rfl, hh, hr⟩
end
end
section
/-! the lexer with an iterator over its signs -/
structure ItOk (hS : Heap) (a : LA) (I BM : Addr) : Prop where
  hI : hS.get? I = none
  hB : hS.get? BM = none
  nI : I ∉ a.all
  nB : BM ∉ a.all
  ne : I ≠ BM
noncomputable def ItAt (I BM : Addr) (e : Bool) (s : Shared) : Prop := if e = true then s.heap.get? I = some ciEnd else ∃ t, s.heap.get? I = some (ciRun BM t)
theorem ItAt.at {I BM : Addr} {e : Bool} {s s' : Shared} (h : ItAt I BM e s) (k : ∀ o, s.heap.get? I = some o → s'.heap.get? I = some o) : ItAt I BM e s' := by
  cases e with
  | true => exact k _ h
  | false => obtain ⟨t, q⟩ := h; exact ⟨t, k _ q⟩
theorem ItAt.alive {I BM : Addr} {e : Bool} {s : Shared} (h : ItAt I BM e s) : ∃ o, s.heap.get? I = some o ∧ o.cls = .type "callable_iterator" := by
  cases e with
  | true => exact ⟨_, h, rfl⟩
  | false => obtain ⟨t, q⟩ := h; exact ⟨_, q, rfl⟩
noncomputable def citW (hS : Heap) (a : LA) (ok : LA.Ok hS a) (I BM : Addr) (iok : ItOk hS a I BM) : Wd hS where
  Mut := fun b => b ∈ [93, a.LX, a.DX, a.PB, a.SG] ∨ b = I
  foot := fun b => b ∈ a.all ∨ b = I ∨ b = BM
  σ := Lx × Bool
  holds := fun st s => LexAt a st.1 s ∧ s.heap.get? BM = some (methodObj (.ref 70) (.ref a.LX)) ∧ ItAt I BM st.2 s
  mutF := fun b m => m.elim (fun m => .inl ((lexW hS a ok).mutF b m)) fun q => .inr (.inl q)
  apart := fun b o e m => m.elim (fun m => (lexW hS a ok).apart b o e m) fun q => by rw [q, iok.hI] at e; cases e
  alive := fun h b m => by
    rcases m with m | rfl | rfl
    · exact h.1.alive b m
    · obtain ⟨o, e, _⟩ := h.2.2.alive; exact ⟨o, e⟩
    · exact ⟨_, h.2.1⟩
  stable := fun h k1 _ => ⟨h.1.at fun b o m e => k1 b o (.inl m) e, k1 _ _ (.inr (.inr rfl)) h.2.1, h.2.2.at fun o e => k1 _ o (.inr (.inl rfl)) e⟩
section
variable {hS : Heap} {prog : Program} {w : World} {n : Nat}
variable {sc : Scope} {vars : List Str} {ρ ρ' : List (Option D)}
variable {a : LA} {ok : LA.Ok hS a} {x x' : Lx} {I BM : Addr} {iok : ItOk hS a I BM} {e : Bool}
theorem cit_keep {s s' : Shared} (iok : ItOk hS a I BM) (h : (citW hS a ok I BM iok).holds (x, e) s) (xt : Ext (lexW hS a ok).Mut s s') (h' : LexAt a x' s') : (citW hS a ok I BM iok).holds (x', e) s' :=
  ⟨h', xt.keep _ _ (fun m => iok.nB ((lexW hS a ok).mutF _ m)) h.2.1, h.2.2.at fun o q => xt.keep _ o (fun m => iok.nI ((lexW hS a ok).mutF _ m)) q⟩
theorem OpW.cit {t : List Value → Sem Value} {ds : List D} {d : D} (h : OpW (lexW hS a ok) prog w n x t ds d x') : OpW (citW hS a ok I BM iok) prog w n (x, e) t ds d (x', e) := fun A U s vs rm stat mu low hold q =>
  wpAny_mono (h A U s vs rm stat (fun b m => mu b (.inl m)) low hold.1 q) (fun v s' z => ⟨z.1.mono fun _ m => .inl m, cit_keep iok hold z.1 z.2.1, z.2.2⟩) fun _ _ x => x
theorem HasMethW.cit {d : D} {name : Str} {f : Value} (m : HasMethW (lexW hS a ok) x d name f) : HasMethW (citW hS a ok I BM iok) (x, e) d name f := fun stat hold r q => m stat hold.1 r q
theorem HasAttrW.cit {d0 d : D} {name : Str} (m : HasAttrW (lexW hS a ok) x d0 name d) : HasAttrW (citW hS a ok I BM iok) (x, e) d0 name d := fun stat hold r q => m stat hold.1 r q
noncomputable def itNx (st : Lx × Bool) : Option (D × (Lx × Bool)) := if st.2 = true then none else match st.1.sg with | [] => none | c :: _ => some (.str (S [c]), (readLx st.1, false))
theorem cit_py {A : Around} {s : Shared} {st : Lx × Bool} {Q : Value → Shared → Prop} (h : (citW hS a ok I BM iok).holds st s) (q : Q (.ref I) s) : wpAny (model prog w) A (pyIter (.ref I)) Q (fun _ _ => False) s := by
  obtain ⟨o, ho, hc⟩ := h.2.2.alive
  exact ci_iter ho hc q
theorem cit_go {A : Around} {s : Shared} {st : Lx × Bool} {t : Expr} {v : Value} {Q : Unit → Shared → Prop} (h : (citW hS a ok I BM iok).holds st s) (q : Q () s) : wpAny (model prog w) A (letOwnedTupleGo t (.ref I) v) Q (fun _ _ => False) s := by
  obtain ⟨o, ho, hc⟩ := h.2.2.alive
  exact letgo_of ho hc (by decide) q
theorem readLx_nil {x : Lx} (h : x.sg = []) : readLx x = x := by
  obtain ⟨l, p, sg⟩ := x
  subst h
  rfl
theorem cit_next (hl : hS.NoLimit) (B : LexBase hS) (hsz : x.sg.length ≤ 1000000) (hc : isPys (dC x.sg) = true) {A : Around} {U : Addr → Prop} {s : Shared} {Q : Option Value → Shared → Prop} (rm : Room A (n + 3)) (stat : ∀ a o, hS.get? a = some o → s.heap.get? a = some o)
    (mu : ∀ b, (citW hS a ok I BM iok).Mut b → U b) (low : ∀ b, U b → ∃ o, s.heap.get? b = some o) (hold : (citW hS a ok I BM iok).holds (x, e) s)
    (h1 : itNx (x, e) = none → ∀ s', Ext (citW hS a ok I BM iok).Mut s s' → (citW hS a ok I BM iok).holds (x, true) s' → Q none s')
    (h2 : ∀ d st', itNx (x, e) = some (d, st') → ∀ v s', Ext (citW hS a ok I BM iok).Mut s s' → (citW hS a ok I BM iok).holds st' s' → Rep U s'.heap v d → Q (some v) s') : wpAny (model prog w) A (pyNext (.ref I)) Q (fun _ _ => False) s := by
  obtain ⟨L, hB, hI⟩ := hold
  cases e with
  | true =>
    refine ci_next_end rm.handled hI fun h' k => h1 rfl _ (.heap (tk := s.toks) k) ⟨L.at fun b o _ q => k b o q, k _ _ hB, k _ _ hI⟩
  | false =>
    obtain ⟨t, hI⟩ := hI
    obtain ⟨o, fd, ho, hd, _⟩ := B.read.at_
    refine ci_next rm.handled hI hB (stat _ _ ho) hd ?_
    refine codeAny_mono (k_read (ok := ok) (n := n) hl B hsz hc A.in1 U s [.ref a.LX] rm.in1 stat (fun b m => mu b (.inl m)) low L (.cons (.raw _) .nil)) fun r s1 hr => ?_
    cases r with
    | error e => exact hr.elim
    | ok fl =>
      cases fl with
      | ret v =>
        obtain ⟨xt, L1, rv⟩ := hr
        obtain ⟨t', rfl⟩ := rv.of_str
        have keepI : s1.heap.get? I = some (ciRun BM t) := xt.keep _ _ (fun m => iok.nI ((lexW hS a ok).mutF _ m)) hI
        have keepB : s1.heap.get? BM = some (methodObj (.ref 70) (.ref a.LX)) := xt.keep _ _ (fun m => iok.nB ((lexW hS a ok).mutF _ m)) hB
        have x1 : Ext (citW hS a ok I BM iok).Mut s s1 := xt.mono fun _ m => .inl m
        refine ⟨x.sg.take 1, t', rfl, keepI, keepB, xt.keep _ _ ((lexW hS a ok).apart _ _ ho) (stat _ _ ho), fun hne => ?_, fun he h' k gI => ?_⟩
        · cases hx : x.sg with
          | nil => rw [hx] at hne; exact absurd rfl hne
          | cons c l =>
            have : itNx (x, false) = some (.str (S [c]), (readLx x, false)) := by simp only [itNx]; rw [hx]; rfl
            exact h2 _ _ this _ _ x1 ⟨L1, keepB, t, keepI⟩ (.str _ _)
        · have hx : x.sg = [] := by
            cases hx : x.sg with
            | nil => rfl
            | cons c l => rw [hx] at he; cases he
          have hn : itNx (x, false) = none := by simp only [itNx]; rw [hx]; rfl
          have x2 : Ext (citW hS a ok I BM iok).Mut s1 { s1 with heap := h' } := ⟨fun b o nm q => k b o (fun z => nm (.inr z)) q, rfl, Nat.le_refl _, fun _ _ => rfl, fun b => b⟩
          rw [readLx_nil hx] at L1
          exact h1 hn _ (x1.trans x2) ⟨LexAt.at L1 fun b o m q => k b o (fun z => iok.nI (z ▸ m)) q, k _ _ (fun z => iok.ne z.symm) keepB, gI⟩
      | _ => exact hr.elim
end
end
section
noncomputable def adv (line : Int) (c : Nat) : Int := if c = 10 then line + 1 else line
theorem readLx_cons {x : Lx} {c : Nat} {l : List Nat} (h : x.sg = c :: l) : readLx x = { line := adv x.line c, pb := x.pb, sg := l } := by
  unfold readLx adv
  rw [h]
  simp
noncomputable def stopT (q : Bool) (c : Nat) : Bool := if q = true then c == 34 else hasS lexWs [c]
structure Tk where
  tok : List Nat
  line : Int
  sg : List Nat
  stop : Bool
noncomputable def inT (q : Bool) : Int → List Nat → List Nat → Tk
  | line, tok, [] => ⟨tok, line, [], false⟩
  | line, tok, c :: l => if stopT q c = true then ⟨tok, adv line c, l, true⟩ else if c = 92 then (match l with | [] => ⟨tok, adv line c, [], false⟩ | d :: l' => inT q (adv (adv line c) d) (tok ++ [d]) l') else inT q (adv line c) (tok ++ [c]) l
theorem inT_stop {q : Bool} {line : Int} {tok : List Nat} {c : Nat} {l : List Nat} (h : stopT q c = true) : inT q line tok (c :: l) = ⟨tok, adv line c, l, true⟩ := by
  cases l <;> simp [inT, h]
theorem inT_esc0 {q : Bool} {line : Int} {tok : List Nat} (h : ¬ stopT q 92 = true) : inT q line tok [92] = ⟨tok, adv line 92, [], false⟩ := by
  simp [inT, h]
theorem inT_esc {q : Bool} {line : Int} {tok : List Nat} {d : Nat} {l : List Nat} (h : ¬ stopT q 92 = true) : inT q line tok (92 :: d :: l) = inT q (adv (adv line 92) d) (tok ++ [d]) l := by
  simp [inT, h]
theorem inT_plain {q : Bool} {line : Int} {tok : List Nat} {c : Nat} {l : List Nat} (h : ¬ stopT q c = true) (hc : c ≠ 92) : inT q line tok (c :: l) = inT q (adv line c) (tok ++ [c]) l := by
  cases l <;> simp [inT, h, hc]
noncomputable def outT : Int → List Nat → Tk
  | line, [] => ⟨[], line, [], false⟩
  | line, c :: l => if hasS lexWs [c] = true then outT (adv line c) l else if c = 34 then inT true (adv line c) [] l else if c = 92 then (match l with | [] => ⟨[], adv line c, [], false⟩ | d :: l' => inT false (adv (adv line c) d) [d] l') else inT false (adv line c) [c] l
noncomputable abbrev gtV : List Str := ["self", "token", "fiter", "ch"]
section
variable {hS : Heap} {prog : Program} {w : World} {n : Nat}
variable {a : LA} {ok : LA.Ok hS a} {x x' : Lx} {I BM : Addr} {iok : ItOk hS a I BM} {e : Bool}
noncomputable abbrev gtS : Scope := fdScope (mth 2)
noncomputable abbrev gtB : List Stmt := fdBody (mth 2)
noncomputable abbrev gtR (a : LA) (I : Addr) (tok : List Nat) (ch : Option D) : List (Option D) := [some (.raw (.ref a.LX)), some (.str (S tok)), some (.raw (.ref I)), ch]
noncomputable abbrev oF : Stmt := nthS gtB 3
noncomputable abbrev oBody : List Stmt := forB oF
noncomputable abbrev qF : Stmt := nthS (ifB (nthS oBody 1)) 0
noncomputable abbrev wF : Stmt := nthS (ifE (nthS oBody 1)) 2
/-- what may be read -/
structure SgOk (x : Lx) (tok : List Nat) : Prop where
  sz : x.sg.length ≤ 1000
  py : isPys (dC x.sg) = true
  tk : tok.length + x.sg.length ≤ 1000
theorem SgOk.tail {x : Lx} {tok t' : List Nat} {c : Nat} {l : List Nat} (h : SgOk x tok) (hx : x.sg = c :: l) (ht : t'.length ≤ tok.length + 1) : SgOk (readLx x) t' := by
  obtain ⟨h1, h2, h3⟩ := h
  rw [readLx_cons hx]
  rw [hx] at h1 h2 h3
  simp only [List.length_cons] at h1 h3
  simp only [dC, List.map_cons, isPys, Bool.and_eq_true] at h2
  exact ⟨by show l.length ≤ _; omega, h2.2, by show _ + l.length ≤ _; omega⟩
/-- an escaped sign is read -/
theorem esc_read (hl : hS.NoLimit) (B : LexBase hS) {tok tk : List Nat} (hx : SgOk x tk) {o : Option D} {p1 p2 p3 : Pos} {pl : Env → Sem Bool}
    (he : ∀ env, eval (.Call (.Attribute (.Name "self" p1) "_read_char" p2) [] [] p3) env = (do
      let ov ← eval (.Name "self" p1) env
      standAt p2.atName
      let (f, first) ← holding [ov] (getMethod ov "_read_char" (pl env))
      callWith p3 f first (backTo p3 (starEach [] env)) []) := by intro _; rfl) :
    EV prog w (n + 3) (citW hS a ok I BM iok) gtS gtV (gtR a I tok o) (x, false) (.Call (.Attribute (.Name "self" p1) "_read_char" p2) [] [] p3) (.str (S (x.sg.take 1))) (readLx x, false) :=
  EV.methW (st₁ := (x, false)) (st₂ := (x, false)) (aN .here ⟨by decide +kernel⟩) (HasMethW.cit (ok := ok) (iok := iok) (x := x) (e := false) (meth_lex (ok := ok) B (.inl ⟨rfl, rfl⟩))) ⟨_, rfl⟩ B.read.callee .nil ((c_read (n := n + 1) hl B (by have := hx.sz; omega) hx.py).cit) he
theorem ws_test (B : LexBase hS) {x : Lx} {tok : List Nat} {c : Nat} {p1 p2 p3 p4 : Pos} :
    ET prog w (n + 3) (citW hS a ok I BM iok) gtS gtV (gtR a I tok (some (.str (S [c])))) (x, false) (.Compare (.Name "ch" p1) [.In] [.Attribute (.Name "self" p2) "whitespace" p3] p4) (hasS lexWs [c]) (x, false) := by
  refine tC (st₁ := (x, false)) ?lhs ?rhs op_sin ⟨rfl⟩
  case lhs => exact aN (.there (.there (.there .here))) ⟨by decide +kernel⟩
  case rhs => exact EV.attrW (aN .here ⟨by decide +kernel⟩) (HasAttrW.cit (ok := ok) (iok := iok) (e := false) (attr_ws (ok := ok) B))
noncomputable abbrev LT := Lx × List Nat
noncomputable def lxOf (x : Lx) (r : Tk) : Lx := { line := r.line, pb := x.pb, sg := r.sg }
/-- what an inner loop comes to -/
noncomputable def inRes (a : LA) (I : Addr) (q : Bool) (b : LT) : Out (Lx × Bool) :=
  let r := inT q b.1.line b.2 b.1.sg
  if r.stop = true then .ret (.str (S r.tok)) (lxOf b.1 r, false) else .next (gtR a I r.tok none) (lxOf b.1 r, true)
set_option maxHeartbeats 2000000 in
theorem w_inQ (hl : hS.NoLimit) (B : LexBase hS) (b : LT) (hb : SgOk b.1 b.2) {o : Option D} :
    EX prog w (n + 3) (citW hS a ok I BM iok) gtS gtV (gtR a I b.2 o) (b.1, false) [qF] (inRes a I true b) := by
  refine EX.forN (I := I) ["ch"] (fun b : Lx × List Nat × Bool => if b.2.2 = true then 0 else b.1.sg.length + 1) (fun b => SgOk b.1 b.2.1 ∧ b.2.2 = false) (fun b => gtR a I b.2.1 none) (fun b => (b.1, b.2.2)) (fun b => itNx (b.1, b.2.2)) (fun b => (b.1, true)) (fun b d => gtR a I b.2.1 (some d)) (fun b => inRes a I true (b.1, b.2.1)) (b.1, b.2, false)
    ?src (.same (.same (.same (.off .nil)))) ⟨hb, rfl⟩ ?htx cit_py cit_go ?next ?turn ?fin (hfs := ?hfs)
  case hfs => intro _ _; rfl
  case src => exact aN (.there (.there .here)) ⟨by decide +kernel⟩
  case htx => decide +kernel
  case next =>
    rintro ⟨x, tok, e⟩ ⟨ok1, he⟩ A U s Q rm stat mu low hold h1 h2
    exact cit_next hl B (by have := ok1.sz; exact Nat.le_trans this (by decide)) ok1.py rm stat mu low hold h1 h2
  case fin =>
    rintro ⟨x, tok, e⟩ ⟨ok1, he⟩ hn
    have he' : e = false := he
    subst he'
    replace ok1 : SgOk x tok := ok1
    have hx : x.sg = [] := by
      cases hx : x.sg with
      | nil => rfl
      | cons c l => simp only [itNx, hx] at hn; cases hn
    have : inRes a I true (x, tok) = .next (gtR a I tok none) (x, true) := by
      obtain ⟨l, p, sg⟩ := x
      simp only at hx
      subst hx
      rfl
    rw [this]
    exact EX.nil
  case turn =>
    rintro ⟨x, tok, e⟩ d st' ⟨ok1, he⟩ hn
    have he' : e = false := he
    subst he'
    replace ok1 : SgOk x tok := ok1
    obtain ⟨c, l, hx⟩ : ∃ c l, x.sg = c :: l := by
      cases hx : x.sg with
      | nil => simp only [itNx, hx] at hn; cases hn
      | cons c l => exact ⟨c, l, rfl⟩
    have hn' : d = .str (S [c]) ∧ st' = (readLx x, false) := by
      simp only [itNx, hx] at hn
      cases hn
      exact ⟨rfl, rfl⟩
    obtain ⟨rfl, rfl⟩ := hn'
    have okr : SgOk (readLx x) tok := ok1.tail hx (by omega)
    have hrl : (readLx x).sg.length < x.sg.length := by rw [readLx_cons hx, hx]; simp
    refine ⟨AS.var (.there (.there (.there .here))), ?_⟩
    by_cases hs : stopT true c = true
    · refine .inr ⟨.str (S tok), (readLx x, false), ?_, ?_⟩
      · refine aIf (b := stopT true c) (st₁ := (readLx x, false)) (by exact ET.eq (d := ([c] == [34])) (tC (aN (.there (.there (.there .here))) ⟨by decide +kernel⟩) (EV.str [34]) op_seq ⟨rfl⟩) (by simp [stopT])) (fun _ => aRet (aN (.there .here) ⟨by decide +kernel⟩) rfl) (fun h => by rw [hs] at h; cases h)
      · unfold inRes
        rw [readLx_cons hx]
        have : inT true x.line tok x.sg = ⟨tok, adv x.line c, l, true⟩ := by rw [hx, inT_stop hs]
        simp only [this]
        rfl
    · refine .inl ?_
      by_cases hc : c = 92
      · subst hc
        have htk : (x.sg.drop 1).take 1 = (readLx x).sg.take 1 := by rw [readLx_cons hx, hx]; rfl
        refine ⟨(readLx (readLx x), tok ++ (readLx x).sg.take 1, false), .next (gtR a I (tok ++ (readLx x).sg.take 1) (some (.str (S ((readLx x).sg.take 1))))) (readLx (readLx x), false), _, ⟨?_, rfl⟩, ?_, ?_, .inl rfl, .same (.same (.same (.off .nil))), ?_⟩
        · cases hr : (readLx x).sg with
          | nil => rw [readLx_nil hr]; simpa using okr
          | cons d l' => exact okr.tail hr (by simp)
        · simp only [Bool.false_eq_true, if_false]
          have : (readLx (readLx x)).sg.length ≤ (readLx x).sg.length := by
            show ((readLx x).sg.drop 1).length ≤ _
            simp
          omega
        · refine aIf (b := stopT true 92) (st₁ := (readLx x, false)) (by exact ET.eq (d := ([92] == [34])) (tC (aN (.there (.there (.there .here))) ⟨by decide +kernel⟩) (EV.str [34]) op_seq ⟨rfl⟩) (by simp [stopT])) (fun h => absurd h hs) (fun _ => ?_)
          refine aIf (b := [92] == [92]) (st₁ := (readLx x, false)) (tC (aN (.there (.there (.there .here))) ⟨by decide +kernel⟩) (EV.str [92]) op_seq ⟨rfl⟩) (fun _ => ?_) (fun h => by cases h)
          refine aSet (d := .str (S ((readLx x).sg.take 1))) (st₁ := (readLx (readLx x), false)) (esc_read hl B okr) (.there (.there (.there .here))) ?_ ⟨by decide +kernel⟩ ⟨fun _ _ => rfl⟩
          refine aAug (st₁ := (readLx (readLx x), false)) (.there .here) (aN (.there (.there (.there .here))) ⟨by decide +kernel⟩) (op_isadd ?_) (.there .here) EX.nil ⟨by decide +kernel⟩
          have := okr.tk
          have h2 : ((readLx x).sg.take 1).length ≤ 1 := by simp; omega
          show tok.length + ((readLx x).sg.take 1).length ≤ 1000000
          omega
        · have : inT true x.line tok x.sg = inT true (readLx (readLx x)).line (tok ++ (readLx x).sg.take 1) (readLx (readLx x)).sg := by
            rw [hx]
            cases l with
            | nil =>
              have e1 : (readLx x).sg = [] := by rw [readLx_cons hx]
              rw [inT_esc0 hs, readLx_nil e1, readLx_cons hx]
              simp [inT]
            | cons d l' =>
              have e1 : (readLx x).sg = d :: l' := by rw [readLx_cons hx]
              rw [inT_esc hs, readLx_cons e1, readLx_cons hx]
              rfl
          unfold inRes
          simp only [this]
          rfl
      · have okn : SgOk (readLx x) (tok ++ [c]) := ok1.tail hx (by simp)
        refine ⟨(readLx x, tok ++ [c], false), .next (gtR a I (tok ++ [c]) (some (.str (S [c])))) (readLx x, false), _, ⟨okn, rfl⟩, ?_, ?_, .inl rfl, .same (.same (.same (.off .nil))), ?_⟩
        · simp only [Bool.false_eq_true, if_false]
          omega
        · refine aIf (b := stopT true c) (st₁ := (readLx x, false)) (by exact ET.eq (d := ([c] == [34])) (tC (aN (.there (.there (.there .here))) ⟨by decide +kernel⟩) (EV.str [34]) op_seq ⟨rfl⟩) (by simp [stopT])) (fun h => absurd h hs) (fun _ => ?_)
          refine aIf (b := [c] == [92]) (st₁ := (readLx x, false)) (tC (aN (.there (.there (.there .here))) ⟨by decide +kernel⟩) (EV.str [92]) op_seq ⟨rfl⟩) (fun h => by simp at h; exact absurd h hc) (fun _ => ?_)
          refine aAug (st₁ := (readLx x, false)) (.there .here) (aN (.there (.there (.there .here))) ⟨by decide +kernel⟩) (op_isadd ?_) (.there .here) EX.nil ⟨by decide +kernel⟩
          have := ok1.tk
          have h1 := ok1.sz
          simp
          omega
        · have : inT true x.line tok x.sg = inT true (readLx x).line (tok ++ [c]) (readLx x).sg := by
            rw [hx, inT_plain hs hc, readLx_cons hx]
          unfold inRes
          simp only [this]
          rfl
set_option maxHeartbeats 2000000 in
theorem w_inW (hl : hS.NoLimit) (B : LexBase hS) (b : LT) (hb : SgOk b.1 b.2) {o : Option D} :
    EX prog w (n + 3) (citW hS a ok I BM iok) gtS gtV (gtR a I b.2 o) (b.1, false) [wF] (inRes a I false b) := by
  refine EX.forN (I := I) ["ch"] (fun b : Lx × List Nat × Bool => if b.2.2 = true then 0 else b.1.sg.length + 1) (fun b => SgOk b.1 b.2.1 ∧ b.2.2 = false) (fun b => gtR a I b.2.1 none) (fun b => (b.1, b.2.2)) (fun b => itNx (b.1, b.2.2)) (fun b => (b.1, true)) (fun b d => gtR a I b.2.1 (some d)) (fun b => inRes a I false (b.1, b.2.1)) (b.1, b.2, false)
    ?src (.same (.same (.same (.off .nil)))) ⟨hb, rfl⟩ ?htx cit_py cit_go ?next ?turn ?fin (hfs := ?hfs)
  case hfs => intro _ _; rfl
  case src => exact aN (.there (.there .here)) ⟨by decide +kernel⟩
  case htx => decide +kernel
  case next =>
    rintro ⟨x, tok, e⟩ ⟨ok1, he⟩ A U s Q rm stat mu low hold h1 h2
    exact cit_next hl B (by have := ok1.sz; exact Nat.le_trans this (by decide)) ok1.py rm stat mu low hold h1 h2
  case fin =>
    rintro ⟨x, tok, e⟩ ⟨ok1, he⟩ hn
    have he' : e = false := he
    subst he'
    replace ok1 : SgOk x tok := ok1
    have hx : x.sg = [] := by
      cases hx : x.sg with
      | nil => rfl
      | cons c l => simp only [itNx, hx] at hn; cases hn
    have : inRes a I false (x, tok) = .next (gtR a I tok none) (x, true) := by
      obtain ⟨l, p, sg⟩ := x
      simp only at hx
      subst hx
      rfl
    rw [this]
    exact EX.nil
  case turn =>
    rintro ⟨x, tok, e⟩ d st' ⟨ok1, he⟩ hn
    have he' : e = false := he
    subst he'
    replace ok1 : SgOk x tok := ok1
    obtain ⟨c, l, hx⟩ : ∃ c l, x.sg = c :: l := by
      cases hx : x.sg with
      | nil => simp only [itNx, hx] at hn; cases hn
      | cons c l => exact ⟨c, l, rfl⟩
    have hn' : d = .str (S [c]) ∧ st' = (readLx x, false) := by
      simp only [itNx, hx] at hn
      cases hn
      exact ⟨rfl, rfl⟩
    obtain ⟨rfl, rfl⟩ := hn'
    have okr : SgOk (readLx x) tok := ok1.tail hx (by omega)
    have hrl : (readLx x).sg.length < x.sg.length := by rw [readLx_cons hx, hx]; simp
    refine ⟨AS.var (.there (.there (.there .here))), ?_⟩
    by_cases hs : stopT false c = true
    · refine .inr ⟨.str (S tok), (readLx x, false), ?_, ?_⟩
      · refine aIf (b := stopT false c) (st₁ := (readLx x, false)) (ws_test B) (fun _ => aRet (aN (.there .here) ⟨by decide +kernel⟩) rfl) (fun h => by rw [hs] at h; cases h)
      · unfold inRes
        rw [readLx_cons hx]
        have : inT false x.line tok x.sg = ⟨tok, adv x.line c, l, true⟩ := by rw [hx, inT_stop hs]
        simp only [this]
        rfl
    · refine .inl ?_
      by_cases hc : c = 92
      · subst hc
        have htk : (x.sg.drop 1).take 1 = (readLx x).sg.take 1 := by rw [readLx_cons hx, hx]; rfl
        refine ⟨(readLx (readLx x), tok ++ (readLx x).sg.take 1, false), .next (gtR a I (tok ++ (readLx x).sg.take 1) (some (.str (S ((readLx x).sg.take 1))))) (readLx (readLx x), false), _, ⟨?_, rfl⟩, ?_, ?_, .inl rfl, .same (.same (.same (.off .nil))), ?_⟩
        · cases hr : (readLx x).sg with
          | nil => rw [readLx_nil hr]; simpa using okr
          | cons d l' => exact okr.tail hr (by simp)
        · simp only [Bool.false_eq_true, if_false]
          have : (readLx (readLx x)).sg.length ≤ (readLx x).sg.length := by
            show ((readLx x).sg.drop 1).length ≤ _
            simp
          omega
        · refine aIf (b := stopT false 92) (st₁ := (readLx x, false)) (ws_test B) (fun h => absurd h hs) (fun _ => ?_)
          refine aIf (b := [92] == [92]) (st₁ := (readLx x, false)) (tC (aN (.there (.there (.there .here))) ⟨by decide +kernel⟩) (EV.str [92]) op_seq ⟨rfl⟩) (fun _ => ?_) (fun h => by cases h)
          refine aSet (d := .str (S ((readLx x).sg.take 1))) (st₁ := (readLx (readLx x), false)) (esc_read hl B okr) (.there (.there (.there .here))) ?_ ⟨by decide +kernel⟩ ⟨fun _ _ => rfl⟩
          refine aAug (st₁ := (readLx (readLx x), false)) (.there .here) (aN (.there (.there (.there .here))) ⟨by decide +kernel⟩) (op_isadd ?_) (.there .here) EX.nil ⟨by decide +kernel⟩
          have := okr.tk
          have h2 : ((readLx x).sg.take 1).length ≤ 1 := by simp; omega
          show tok.length + ((readLx x).sg.take 1).length ≤ 1000000
          omega
        · have : inT false x.line tok x.sg = inT false (readLx (readLx x)).line (tok ++ (readLx x).sg.take 1) (readLx (readLx x)).sg := by
            rw [hx]
            cases l with
            | nil =>
              have e1 : (readLx x).sg = [] := by rw [readLx_cons hx]
              rw [inT_esc0 hs, readLx_nil e1, readLx_cons hx]
              simp [inT]
            | cons d l' =>
              have e1 : (readLx x).sg = d :: l' := by rw [readLx_cons hx]
              rw [inT_esc hs, readLx_cons e1, readLx_cons hx]
              rfl
          unfold inRes
          simp only [this]
          rfl
      · have okn : SgOk (readLx x) (tok ++ [c]) := ok1.tail hx (by simp)
        refine ⟨(readLx x, tok ++ [c], false), .next (gtR a I (tok ++ [c]) (some (.str (S [c])))) (readLx x, false), _, ⟨okn, rfl⟩, ?_, ?_, .inl rfl, .same (.same (.same (.off .nil))), ?_⟩
        · simp only [Bool.false_eq_true, if_false]
          omega
        · refine aIf (b := stopT false c) (st₁ := (readLx x, false)) (ws_test B) (fun h => absurd h hs) (fun _ => ?_)
          refine aIf (b := [c] == [92]) (st₁ := (readLx x, false)) (tC (aN (.there (.there (.there .here))) ⟨by decide +kernel⟩) (EV.str [92]) op_seq ⟨rfl⟩) (fun h => by simp at h; exact absurd h hc) (fun _ => ?_)
          refine aAug (st₁ := (readLx x, false)) (.there .here) (aN (.there (.there (.there .here))) ⟨by decide +kernel⟩) (op_isadd ?_) (.there .here) EX.nil ⟨by decide +kernel⟩
          have := ok1.tk
          have h1 := ok1.sz
          simp
          omega
        · have : inT false x.line tok x.sg = inT false (readLx x).line (tok ++ [c]) (readLx x).sg := by
            rw [hx, inT_plain hs hc, readLx_cons hx]
          unfold inRes
          simp only [this]
          rfl

end
end
section
theorem outT_ws {line : Int} {c : Nat} {l : List Nat} (h : hasS lexWs [c] = true) : outT line (c :: l) = outT (adv line c) l := by
  cases l <;> simp [outT, h]
theorem outT_q {line : Int} {c : Nat} {l : List Nat} (h : ¬ hasS lexWs [c] = true) (hc : c = 34) : outT line (c :: l) = inT true (adv line c) [] l := by
  subst hc
  cases l <;> simp [outT, h]
theorem outT_esc0 {line : Int} (h : ¬ hasS lexWs [92] = true) : outT line [92] = ⟨[], adv line 92, [], false⟩ := by
  simp [outT, h]
theorem outT_esc {line : Int} {d : Nat} {l : List Nat} (h : ¬ hasS lexWs [92] = true) : outT line (92 :: d :: l) = inT false (adv (adv line 92) d) [d] l := by
  simp [outT, h]
theorem outT_plain {line : Int} {c : Nat} {l : List Nat} (h : ¬ hasS lexWs [c] = true) (h1 : c ≠ 34) (h2 : c ≠ 92) : outT line (c :: l) = inT false (adv line c) [c] l := by
  cases l <;> simp [outT, h, h1, h2]
section
variable {hS : Heap} {prog : Program} {w : World} {n : Nat}
variable {a : LA} {ok : LA.Ok hS a} {x x' : Lx} {I BM : Addr} {iok : ItOk hS a I BM} {e : Bool}
noncomputable def outRes (b : Lx × List Nat × Bool) : Out (Lx × Bool) :=
  if b.2.2 = true then .ret (.str (S b.2.1)) (b.1, true) else let r := outT b.1.line b.1.sg; .ret (.str (S r.tok)) (lxOf b.1 r, !r.stop)
/-- from an inner loop to the outer one -/
theorem from_inner {q : Bool} {x y : Lx} {tok : List Nat} {ss : List Stmt} {ρ1 : List (Option D)} {k : Nat} (hE : EX prog w (n + 3) (citW hS a ok I BM iok) gtS gtV ρ1 (x, false) ss (inRes a I q (y, tok))) (hp : y.pb = x'.pb) (hr : outT x'.line x'.sg = inT q y.line tok y.sg) (hk : 0 < k) :
    (∃ (b' : Lx × List Nat × Bool) (ob : Out (citW hS a ok I BM iok).σ) (ρ' : List (Option D)), (b'.2.2 = false → b'.2.1 = [] ∧ SgOk b'.1 []) ∧ (if b'.2.2 = true then 0 else b'.1.sg.length + 1) < k ∧ EX prog w (n + 3) (citW hS a ok I BM iok) gtS gtV ρ1 (x, false) ss ob ∧ Goes ob ρ' (b'.1, b'.2.2) ∧ Less (gtR a I b'.2.1 none) ρ' ∧ outRes b' = outRes (x', [], false)) ∨
      (∃ d' st'', EX prog w (n + 3) (citW hS a ok I BM iok) gtS gtV ρ1 (x, false) ss (.ret d' st'') ∧ outRes (x', [], false) = .ret d' st'') := by
  unfold inRes at hE
  simp only at hE
  by_cases hs : (inT q y.line tok y.sg).stop = true
  · rw [if_pos hs] at hE
    refine .inr ⟨_, _, hE, ?_⟩
    unfold outRes
    simp only [Bool.false_eq_true, if_false, hr, hs, lxOf, hp]
    rfl
  · rw [if_neg hs] at hE
    refine .inl ⟨(lxOf y (inT q y.line tok y.sg), (inT q y.line tok y.sg).tok, true), _, _, (fun h => by cases h), by simpa using hk, hE, .inl rfl, .same (.same (.same (.same .nil))), ?_⟩
    unfold outRes
    have hs' : (inT q y.line tok y.sg).stop = false := by simpa using hs
    simp only [if_true, Bool.false_eq_true, if_false, hr, hs', lxOf, hp]
    rfl
set_option maxHeartbeats 2000000 in
theorem w_out (hl : hS.NoLimit) (B : LexBase hS) (hx0 : SgOk x []) {o : Option D} :
    EX prog w (n + 3) (citW hS a ok I BM iok) gtS gtV (gtR a I [] o) (x, false) [oF, nthS gtB 4] (outRes (x, [], false)) := by
  refine EX.forN (I := I) ["ch"] (fun b : Lx × List Nat × Bool => if b.2.2 = true then 0 else b.1.sg.length + 1) (fun b => b.2.2 = false → b.2.1 = [] ∧ SgOk b.1 []) (fun b => gtR a I b.2.1 none) (fun b => (b.1, b.2.2)) (fun b => itNx (b.1, b.2.2)) (fun b => (b.1, true)) (fun b d => gtR a I b.2.1 (some d)) outRes (x, [], false)
    ?src (.same (.same (.same (.off .nil)))) (fun _ => ⟨rfl, hx0⟩) ?htx cit_py cit_go ?next ?turn ?fin (hfs := ?hfs)
  case hfs => intro _ _; rfl
  case src => exact aN (.there (.there .here)) ⟨by decide +kernel⟩
  case htx => decide +kernel
  case next =>
    rintro ⟨x, tok, e⟩ okb A U s Q rm stat mu low hold h1 h2
    cases e with
    | true => 
      obtain ⟨L, hB, hI⟩ := hold
      exact ci_next_end rm.handled hI fun h' k => h1 rfl _ (.heap (tk := s.toks) k) ⟨L.at fun b o _ q => k b o q, k _ _ hB, k _ _ hI⟩
    | false =>
      have ok1 := (okb rfl).2
      exact cit_next hl B (by have := ok1.sz; exact Nat.le_trans this (by decide)) ok1.py rm stat mu low hold h1 h2
  case fin =>
    rintro ⟨x, tok, e⟩ okb hn
    have key : outRes (x, tok, e) = .ret (.str (S tok)) (x, true) := by
      cases e with
      | true => rfl
      | false =>
        obtain ⟨ht, _⟩ := okb rfl
        have ht' : tok = [] := ht
        subst ht'
        have hx : x.sg = [] := by
          cases hx : x.sg with
          | nil => rfl
          | cons c l => simp only [itNx, hx] at hn; cases hn
        obtain ⟨l, p, sg⟩ := x
        simp only at hx
        subst hx
        rfl
    rw [key]
    exact aRet (aN (.there .here) ⟨by decide +kernel⟩) rfl
  case turn =>
    rintro ⟨x, tok, e⟩ d st' okb hn
    have he' : e = false := by
      cases e with
      | true => cases hn
      | false => rfl
    subst he'
    obtain ⟨ht, ok1⟩ := okb rfl
    have ht' : tok = [] := ht
    subst ht'
    replace ok1 : SgOk x [] := ok1
    obtain ⟨c, l, hx⟩ : ∃ c l, x.sg = c :: l := by
      cases hx : x.sg with
      | nil => simp only [itNx, hx] at hn; cases hn
      | cons c l => exact ⟨c, l, rfl⟩
    have hn' : d = .str (S [c]) ∧ st' = (readLx x, false) := by
      simp only [itNx, hx] at hn
      cases hn
      exact ⟨rfl, rfl⟩
    obtain ⟨rfl, rfl⟩ := hn'
    have okr : SgOk (readLx x) [] := ok1.tail hx (by simp)
    have hrl : (readLx x).sg.length < x.sg.length := by rw [readLx_cons hx, hx]; simp
    have hpb : ∀ y : Lx, (readLx y).pb = y.pb := fun _ => rfl
    refine ⟨AS.var (.there (.there (.there .here))), ?_⟩
    by_cases hws : hasS lexWs [c] = true
    · refine .inl ⟨(readLx x, [], false), .cont (gtR a I [] (some (.str (S [c])))) (readLx x, false), _, fun _ => ⟨rfl, okr⟩, ?_, ?_, .inr rfl, .same (.same (.same (.off .nil))), ?_⟩
      · simp only [Bool.false_eq_true, if_false]; omega
      · exact aIf (b := hasS lexWs [c]) (st₁ := (readLx x, false)) (ws_test B) (fun _ => EX.continue_) (fun h => by rw [hws] at h; cases h)
      · unfold outRes
        have : outT x.line x.sg = outT (readLx x).line (readLx x).sg := by rw [hx, outT_ws hws, readLx_cons hx]
        simp only [Bool.false_eq_true, if_false, this]
        rfl
    · by_cases hq : c = 34
      · have hin := w_inQ (ok := ok) (iok := iok) (n := n) (prog := prog) (w := w) hl B (readLx x, []) okr (o := some (.str (S [c])))
        refine from_inner (q := true) (y := readLx x) (tok := []) ?_ (hpb x) (by rw [hx, outT_q hws hq, readLx_cons hx]) (by simp)
        refine aIf (b := hasS lexWs [c]) (st₁ := (readLx x, false)) (ws_test B) (fun h => absurd h hws) (fun _ => ?_)
        exact aIf (b := [c] == [34]) (st₁ := (readLx x, false)) (tC (aN (.there (.there (.there .here))) ⟨by decide +kernel⟩) (EV.str [34]) op_seq ⟨rfl⟩) (fun _ => hin) (fun h => by simp at h; exact absurd hq h)
      · by_cases hc : c = 92
        · subst hc
          have okr2 : SgOk (readLx (readLx x)) ((readLx x).sg.take 1) := by
            cases hr : (readLx x).sg with
            | nil => rw [readLx_nil hr]; simpa using okr
            | cons d l' => exact okr.tail hr (by simp)
          have hin := w_inW (ok := ok) (iok := iok) (n := n) (prog := prog) (w := w) hl B (readLx (readLx x), (readLx x).sg.take 1) okr2 (o := some (.str (S ((readLx x).sg.take 1))))
          refine from_inner (q := false) (y := readLx (readLx x)) (tok := (readLx x).sg.take 1) ?_ (hpb x) ?_ (by simp)
          · refine aIf (b := hasS lexWs [92]) (st₁ := (readLx x, false)) (ws_test B) (fun h => absurd h hws) (fun _ => ?_)
            refine aIf (b := [92] == [34]) (st₁ := (readLx x, false)) (tC (aN (.there (.there (.there .here))) ⟨by decide +kernel⟩) (EV.str [34]) op_seq ⟨rfl⟩) (fun h => by cases h) (fun _ => ?_)
            refine aIf (b := [92] == [92]) (st₁ := (readLx x, false)) (tC (aN (.there (.there (.there .here))) ⟨by decide +kernel⟩) (EV.str [92]) op_seq ⟨rfl⟩) (fun _ => ?_) (fun h => by cases h)
            refine aSet (d := .str (S ((readLx x).sg.take 1))) (st₁ := (readLx (readLx x), false)) (esc_read hl B okr) (.there (.there (.there .here))) ?_ ⟨by decide +kernel⟩ ⟨fun _ _ => rfl⟩
            refine aAug (d' := .str (S ((readLx x).sg.take 1))) (st₁ := (readLx (readLx x), false)) (.there .here) (aN (.there (.there (.there .here))) ⟨by decide +kernel⟩) ?opp (.there .here) hin ⟨by decide +kernel⟩
            case opp =>
              have := op_isadd (hS := hS) (prog := prog) (w := w) (n := n + 3) (p := []) (q := (readLx x).sg.take 1) (by simp; omega)
              simpa using this
          · rw [hx]
            cases l with
            | nil =>
              have e1 : (readLx x).sg = [] := by rw [readLx_cons hx]
              rw [outT_esc0 hws, readLx_nil e1, readLx_cons hx]
              simp [inT]
            | cons d l' =>
              have e1 : (readLx x).sg = d :: l' := by rw [readLx_cons hx]
              rw [outT_esc hws, readLx_cons e1, readLx_cons hx]
              rfl
        · have okn : SgOk (readLx x) [c] := ok1.tail hx (by simp)
          have hin := w_inW (ok := ok) (iok := iok) (n := n) (prog := prog) (w := w) hl B (readLx x, [c]) okn (o := some (.str (S [c])))
          refine from_inner (q := false) (y := readLx x) (tok := [c]) ?_ (hpb x) (by rw [hx, outT_plain hws hq hc, readLx_cons hx]) (by simp)
          refine aIf (b := hasS lexWs [c]) (st₁ := (readLx x, false)) (ws_test B) (fun h => absurd h hws) (fun _ => ?_)
          refine aIf (b := [c] == [34]) (st₁ := (readLx x, false)) (tC (aN (.there (.there (.there .here))) ⟨by decide +kernel⟩) (EV.str [34]) op_seq ⟨rfl⟩) (fun h => by simp at h; exact absurd h hq) (fun _ => ?_)
          refine aIf (b := [c] == [92]) (st₁ := (readLx x, false)) (tC (aN (.there (.there (.there .here))) ⟨by decide +kernel⟩) (EV.str [92]) op_seq ⟨rfl⟩) (fun h => by simp at h; exact absurd h hc) (fun _ => ?_)
          refine aAug (d' := .str (S [c])) (st₁ := (readLx x, false)) (.there .here) (aN (.there (.there (.there .here))) ⟨by decide +kernel⟩) (op_isadd (p := []) (q := [c]) (by simp)) (.there .here) hin ⟨by decide +kernel⟩
end
end
section
noncomputable def callF : Expr → Expr
  | .Call f _ _ _ => f
  | _ => .Constant .none 0 default
noncomputable def argN : Expr → Nat → Expr
  | .Call _ l _ _, k => l.getD k (.Constant .none 0 default)
  | _, _ => .Constant .none 0 default
noncomputable def attO : Expr → Expr
  | .Attribute o _ _ => o
  | _ => .Constant .none 0 default
theorem lookIn_none {o : Obj} {es : Array DictEntry} {ep : Nat} {n : Str} (hd : o.data = .dict es ep) (hk : StrKeys es) (hf : nsFind es n = none) : lookIn n o = some none := by
  have h1 : es.toList.find? (·.key.isStr n) = none := by
    simp only [nsFind, findBy, Option.map_eq_none_iff] at hf
    rw [← Array.find?_toList] at hf
    exact hf
  have h2 : es.toList.any (·.refKey) = false := by
    rw [List.any_eq_false]
    intro e he
    obtain ⟨m, t, e1⟩ := hk e (Array.mem_toList_iff.mp he)
    simp [DictEntry.refKey, e1]
  unfold lookIn
  rw [hd]
  simp only [h1, h2]
  rfl
section
variable {hS : Heap} {prog : Program} {w : World} {n : Nat}
variable {a : LA} {ok : LA.Ok hS a} {x : Lx}
/-- the bound method -/
theorem get_bound (B : LexBase hS) {A : Around} {s : Shared} {ex : Bool} {Q : Value → Shared → Prop} {E : Value → Shared → Prop} (stat : ∀ a o, hS.get? a = some o → s.heap.get? a = some o) (L : LexAt a x s)
    (h : ∀ tk, Q (.ref s.heap.objs.size) { s with heap := s.heap.push (methodObj (.ref 70) (.ref a.LX)), toks := tk }) : wpAny (model prog w) A (getAttr (.ref a.LX) "_read_char" ex) Q E s := by
  obtain ⟨K, X, hga, hgh, hty, hfind⟩ := B.frag
  obtain ⟨m, I, M⟩ := L.lex
  have hld := L.ldict
  obtain ⟨o, ho, hc, hnc, hdd⟩ := id I
  rcases hdd with ⟨e, _⟩ | ⟨d, e, hne, hns, hex⟩
  · rw [hld o ho] at e; cases e
  obtain ⟨od, es, ep, hod, hdat, hk, _, hf⟩ := hns
  have hnone : m "_read_char" = none := only_none M.only (by decide +kernel)
  have hlk : lookIn "_read_char" od = some none := lookIn_none hdat hk (by rw [hf]; exact hnone)
  have IA : InstAt s.heap a.LX o 87 (some od) := ⟨ho, hc, by unfold notCls; cases hod' : o.data <;> simp; exact hnc _ hod', by rw [e]; exact hod⟩
  have X' : K.In s.heap := X.keeps stat
  refine get_bind X' IA hga (hfind od hlk) hgh (wpAny_call (fn_get X' hty ?_))
  exact wpAny_pure (h _)
noncomputable abbrev itE : Expr := asgE (nthS gtB 2)
theorem ev_iter (B : LexBase hS) (hit : Blt hS "iter" (.builtin "iter")) {ρ : List (Option D)} (hself : At gtV ρ "self" (.raw (.ref a.LX))) {A : Around} {env : Env} {U : Addr → Prop} {s : Shared} (r : Room A n) (ft : Fits gtS env) (I : Stand (lexW hS a ok) U env gtV ρ x s) :
    wpAny (model prog w) A (eval itE env) (fun v s' => Ext (lexW hS a ok).Mut s s' ∧ LexAt a x s' ∧ ∃ I BM t, v = .ref I ∧ s.heap.get? I = none ∧ s.heap.get? BM = none ∧ I ≠ BM ∧ s'.heap.get? I = some (ciRun BM t) ∧ s'.heap.get? BM = some (methodObj (.ref 70) (.ref a.LX))) (fun _ _ => False) s := by
  have hn : EV prog w n (lexW hS a ok) gtS gtV ρ x (.Name "iter" (exPos (callF itE))) (.raw (.builtin "iter")) x := .blt hit (by decide +kernel)
  refine Call_ (wpAny_mono (hn A env U s r ft I) (fun v s1 q1 => ?_) fun _ _ x => x)
  have e := q1.2.2.of_raw
  subst e
  have I1 := I.step q1.1 q1.2.1
  refine Calls.callWith_builtin rfl (Calls.evalArgs_plain (args_cons (e := argE itE) (rest := [argN itE 1]) (env := env) ?_ rfl))
  have hs : EV prog w n (lexW hS a ok) gtS gtV ρ x (.Name "self" (exPos (attO (argE itE)))) (.raw (.ref a.LX)) x := .var hself
  refine Attribute_any_ (wpAny_mono (hs A env U s1 r ft I1) (fun v s2 q2 => ?_) fun _ _ x => x) rfl
  have e := q2.2.2.of_raw
  subst e
  have I2 := I1.step q2.1 q2.2.1
  refine get_bound B I2.static I2.hold fun tk => ?_
  have L2 : LexAt a x s2 := I2.hold
  have x3 : Ext (lexW hS a ok).Mut s2 { s2 with heap := s2.heap.push (methodObj (.ref 70) (.ref a.LX)), toks := tk } := .heap fun b o e => Heap.get?_push_of_some _ e
  refine args_cons (e := argN itE 1) (rest := []) (env := env) (Calls.Constant_str (args_nil ?_)) rfl
  have hB : (s2.heap.push (methodObj (.ref 70) (.ref a.LX))).get? s2.heap.objs.size = some (methodObj (.ref 70) (.ref a.LX)) := Heap.get?_push_size _ rfl
  have x02 : Ext (lexW hS a ok).Mut s s2 := q1.1.trans q2.1
  refine call_iter2 (BM := s2.heap.objs.size) (t := tk) hB ?_
  have x4 : Ext (lexW hS a ok).Mut s2 { s2 with heap := (s2.heap.push (methodObj (.ref 70) (.ref a.LX))).push (ciRun s2.heap.objs.size tk), toks := tk + 1 } := .heap fun b o e => Heap.get?_push_of_some _ (Heap.get?_push_of_some _ e)
  have hsz : (s2.heap.push (methodObj (.ref 70) (.ref a.LX))).objs.size = s2.heap.objs.size + 1 := Heap.size_push ..
  refine ⟨x02.trans x4, L2.at fun b o _ e => Heap.get?_push_of_some _ (Heap.get?_push_of_some _ e), (s2.heap.push (methodObj (.ref 70) (.ref a.LX))).objs.size, s2.heap.objs.size, tk, rfl, ?_, ?_, ?_, Heap.get?_push_size _ rfl, Heap.get?_push_of_some _ hB⟩
  · exact none_of_ge (W := lexW hS a ok) x02 L2 (by rw [hsz]; exact Nat.le_succ _)
  · exact none_of_ge (W := lexW hS a ok) x02 L2 (Nat.le_refl _)
  · rw [hsz]; exact Nat.succ_ne_self _
/-- the world with an iterator is entered -/
theorem EX.enterIt {y : Str} {e : Expr} {p pos : Pos} {rest : List Stmt} {sc : Scope} {vars : List Str} {ρ : List (Option D)} {d : D} {x' : Lx} (ρ' : Addr → List (Option D))
    (h : ∀ (A : Around) (env : Env) (U : Addr → Prop) (s : Shared), Room A n → Fits sc env → Stand (lexW hS a ok) U env vars ρ x s →
      wpAny (model prog w) A (eval e env) (fun v s' => Ext (lexW hS a ok).Mut s s' ∧ LexAt a x s' ∧ ∃ I BM t, v = .ref I ∧ s.heap.get? I = none ∧ s.heap.get? BM = none ∧ I ≠ BM ∧ s'.heap.get? I = some (ciRun BM t) ∧ s'.heap.get? BM = some (methodObj (.ref 70) (.ref a.LX))) (fun _ _ => False) s)
    (hp : ∀ I, Put vars ρ y (.raw (.ref I)) (ρ' I))
    (hr : ∀ I BM (iok : ItOk hS a I BM), ∃ b, EX prog w n (citW hS a ok I BM iok) sc vars (ρ' I) (x, false) rest (.ret d (x', b))) (nd : vars.Nodup := by decide +kernel)
    (hsw : ∀ env, Fits sc env → swapsWith e (some (.Name y p)) pos.line env = pure false := by intro _ _; rfl) : EX prog w n (lexW hS a ok) sc vars ρ x (.Assign [.Name y p] e pos :: rest) (.ret d x') := fun A env U s r f I0 hs => by
  refine wpAny_execs_cons (wpAny_Assign_Name (wpAny_mono (h A env U s r f I0) (fun v s1 z => ?_) fun _ _ x => x) (hsw env f))
  obtain ⟨x1, L1, I, BM, t, rfl, nI, nB, hne, gI, gB⟩ := z
  have notS : ∀ b, s.heap.get? b = none → hS.get? b = none := fun b hb => by
    cases e : hS.get? b with
    | none => rfl
    | some o => rw [I0.static b o e] at hb; cases hb
  have notA : ∀ b, s.heap.get? b = none → b ∉ a.all := fun b hb m => by obtain ⟨o, e⟩ := (lexW hS a ok).alive I0.hold b m; rw [hb] at e; cases e
  have iok : ItOk hS a I BM := ⟨notS _ nI, notS _ nB, notA _ nI, notA _ nB, hne⟩
  have notU : ∀ b, s.heap.get? b = none → ¬ U b := fun b hb m => by obtain ⟨o, e⟩ := I0.low b m; rw [hb] at e; cases e
  have I1 := I0.grow x1 L1 (fun b => b = I ∨ b = BM) (fun b q => by rcases q with rfl | rfl <;> assumption) (fun b q => by rcases q with rfl | rfl; exact ⟨_, gI⟩; exact ⟨_, gB⟩)
  obtain ⟨i, hx, hρ'⟩ := (hp I).idx
  have hm := List.mem_of_getElem? hx
  have hLn : ∀ b, s.heap.get? b = none → env.locals ≠ b := fun b hb q => by obtain ⟨_, o, _, _, e', _⟩ := I0.ns; rw [q, hb] at e'; cases e'
  have hCn : ∀ b, s.heap.get? b = none → ∀ z c, env.cells.lookup z = some c → c ≠ b := fun b hb z c hc q => by obtain ⟨_, o, e', _⟩ := I0.cellv z c hc; rw [q, hb] at e'; cases e'
  refine wpAny_mono (I1.store f nd hx (hs y hm) (.raw (.ref I))) (fun _ s2 z => ?_) fun _ _ x => x
  obtain ⟨x2, I2⟩ := z
  rw [← hρ'] at I2
  have keep : ∀ b, s.heap.get? b = none → ∀ o, s1.heap.get? b = some o → s2.heap.get? b = some o := fun b hb o e => x2.keep b o (fun q => q.elim (fun q => hLn b hb q.symm) fun ⟨z, _, hc⟩ => hCn b hb z b hc rfl) e
  obtain ⟨b, hE⟩ := hr I BM iok
  have I3 : Stand (citW hS a ok I BM iok) (fun b => U b ∨ b = I ∨ b = BM) env vars (ρ' I) (x, false) s2 :=
    ⟨I2.static, fun b m => m.elim (fun m => .inl (I0.mutU b m)) (fun q => .inr (.inl q)), I2.low, ⟨I2.hold, keep _ nB _ gB, t, keep _ nI _ gI⟩, I2.ns, fun m => m.elim I2.locals (fun q => q.elim (hLn _ nI) (hLn _ nB)), I2.localsS,
      fun z c hc m => m.elim (I2.cells z c hc) (fun q => q.elim (hCn _ nI z c hc) (hCn _ nB z c hc)), I2.cellsS, I2.cellv, I2.inj, I2.sto⟩
  refine wpAny_mono (hE A env _ s2 r f I3 hs) (fun fl s3 z => ?_) fun _ _ x => x
  obtain ⟨x3, v', rfl, hh, hr'⟩ := z
  refine ⟨⟨fun b ob nb e => ?_, x3.os.trans (x2.os.trans x1.os), Nat.le_trans x1.gsize (Nat.le_trans x2.gsize x3.gsize), fun g hg => (x3.gens g (Nat.lt_of_lt_of_le hg (Nat.le_trans x1.gsize x2.gsize))).trans ((x2.gens g (Nat.lt_of_lt_of_le hg x1.gsize)).trans (x1.gens g hg)), fun q => x3.bare (x2.bare (x1.bare q))⟩, v', rfl, hh.1, hr'.move fun b o nu _ e => ⟨e, fun u => nu (.inl u)⟩⟩
  have hbI : b ≠ I := fun q => by rw [q, nI] at e; cases e
  refine x3.keep b ob (fun m => ?_) (x2.keep b ob (fun m => nb (.inr (Own.mono (by simpa using hm) b m))) (x1.keep b ob (fun m => nb (.inl m)) e))
  rcases m with (m | m) | m
  · exact nb (.inl m)
  · exact hbI m
  · exact nb (.inr m)
noncomputable def tokR (x : Lx) : List Nat × Lx := match x.pb with
  | p :: l => (p, { x with pb := l })
  | [] => ((outT x.line x.sg).tok, lxOf x (outT x.line x.sg))
set_option maxHeartbeats 1000000 in
theorem w_token (hl : hS.NoLimit) (B : LexBase hS) (hit : Blt hS "iter" (.builtin "iter")) (hx : SgOk x []) (hpb : x.pb.length ≤ 1000) :
    EX prog w (n + 3) (lexW hS a ok) gtS gtV [some (.raw (.ref a.LX)), none, none, none] x gtB (.ret (.str (S (tokR x).1)) (tokR x).2) := by
  refine aIf (b := !x.pb.isEmpty) (st₁ := x) ?tst (fun h => ?_) (fun h => ?_)
  case tst => exact ET.ofW (EV.attrW (aN .here ⟨by decide +kernel⟩) (attr_pb B)) (lex_truth (by omega))
  · obtain ⟨p, l, hp⟩ : ∃ p l, x.pb = p :: l := by
      cases hp : x.pb with
      | nil => rw [hp] at h; cases h
      | cons p l => exact ⟨p, l, rfl⟩
    have e : tokR x = (p, { x with pb := l }) := by unfold tokR; rw [hp]
    rw [e]
    refine aRet ?v rfl
    case v => exact EV.methW (EV.attrW (aN .here ⟨by decide +kernel⟩) (attr_pb B)) (lex_meth (.inl rfl) PySem.F.slot_list_pop PySem.F.type_list_pop) ⟨_, rfl⟩ (.builtin _) (.cons (EV.int 0) .nil fun _ => rfl) (lex_popPB hp (by rw [hp] at hpb; simp at hpb; omega))
  · have hp : x.pb = [] := by
      cases hp : x.pb with
      | nil => rfl
      | cons p l => rw [hp] at h; cases h
    have e : tokR x = ((outT x.line x.sg).tok, lxOf x (outT x.line x.sg)) := by unfold tokR; rw [hp]
    rw [e]
    refine aSet (d := .str (S [])) (st₁ := x) (EV.str []) (.there .here) ?_ ⟨by decide +kernel⟩ ⟨fun _ _ => rfl⟩
    refine EX.enterIt (fun I => gtR a I [] none) ?it (fun I => .there (.there .here)) fun I BM iok => ⟨!(outT x.line x.sg).stop, w_out hl B hx⟩
    case it => exact fun A env U s r f I0 => ev_iter B hit .here r f I0
theorem c_token (hl : hS.NoLimit) (B : LexBase hS) (hit : Blt hS "iter" (.builtin "iter")) (hx : SgOk x []) (hpb : x.pb.length ≤ 1000) : OpW (lexW hS a ok) prog w (n + 4) x (Call (.ref 77)) [.raw (.ref a.LX)] (.str (S (tokR x).1)) (tokR x).2 :=
  fun_okLW 3 hl B.tok rfl rfl (by decide +kernel) (w_token hl B hit hx hpb)
theorem w_push (B : LexBase hS) {p : List Nat} (hpb : x.pb.length ≤ 1000) : EX prog w n (lexW hS a ok) (fdScope (mth 3)) ["self", "token"] [some (.raw (.ref a.LX)), some (.str (S p))] x (fdBody (mth 3)) (.next [some (.raw (.ref a.LX)), some (.str (S p))] { x with pb := x.pb ++ [p] }) := by
  refine EX.expr (d := .none) (st₁ := { x with pb := x.pb ++ [p] }) ?v EX.nil
  case v => exact EV.methW (EV.attrW (aN .here ⟨by decide +kernel⟩) (attr_pb B)) (lex_meth (.inl rfl) PySem.F.slot_list_append PySem.F.type_list_append) ⟨_, rfl⟩ (.builtin _) (.cons (aN (.there .here) ⟨by decide +kernel⟩) .nil fun _ => rfl) (lex_appPB (by omega))
theorem c_push (hl : hS.NoLimit) (B : LexBase hS) {p : List Nat} (hpb : x.pb.length ≤ 1000) : OpW (lexW hS a ok) prog w (n + 1) x (Call (.ref 84)) [.raw (.ref a.LX), .str (S p)] .none { x with pb := x.pb ++ [p] } :=
  fun_okLN 0 hl B.push rfl rfl (by decide +kernel) (w_push B hpb)
end
end
section
noncomputable abbrev LnB := Lx × List Nat × List Int
noncomputable def lnPush (coming : List Int) (turn : Int) (x : Lx) (k : Int) : Lx := if (turn == 0 && coming.getD k.toNat 0 == 1) = true then { x with pb := x.pb ++ [[97 + k.toNat]] } else x
noncomputable def lnTake (counters : List Int) (b : LnB) (k : Int) : LnB := if (counters.getD k.toNat 0 == 1 && b.2.2.getD k.toNat 0 == 0) = true then ((tokR b.1).2, b.2.1 ++ (tokR b.1).1, b.2.2.set k.toNat ((tokR b.1).1.length : Int)) else b
noncomputable def lnStep (coming counters : List Int) (turn : Int) (b : LnB) (k : Int) : LnB := lnTake counters (lnPush coming turn b.1 k, b.2.1, b.2.2) k
noncomputable def lnTurn (coming counters : List Int) (b : LnB) (turn : Int) : LnB := (zs 0 5).foldl (lnStep coming counters turn) b
noncomputable def lnAll (coming counters : List Int) (x : Lx) : LnB := [0, 1].foldl (lnTurn coming counters) (x, [], [0, 0, 0, 0, 0])
noncomputable def lnNames (coming : List Int) : List Nat := (((zs 0 5).filter fun k => coming.getD k.toNat 0 == 1).map fun k => [97 + k.toNat]).flatten
noncomputable def lnRes (counters served : List Int) : List Int := (zs 0 5).map fun k => if counters.getD k.toNat 0 = 1 then 1 - served.getD k.toNat 0 else 2
noncomputable def lineF (coming counters : List Int) (x : Lx) : List Int := if (lnAll coming counters x).2.1 = lnNames coming then lnRes counters (lnAll coming counters x).2.2 else []
theorem tokR_nil {x : Lx} (h : x.sg = []) : (tokR x).2.sg = [] := by
  unfold tokR
  split
  · exact h
  · rw [h]; rfl
theorem tokR_pb {x : Lx} (h : x.sg = []) : (tokR x).2.pb.length ≤ x.pb.length ∧ (tokR x).1.length + ((tokR x).2.pb.map (·.length)).sum = (x.pb.map (·.length)).sum := by
  unfold tokR
  cases hp : x.pb with
  | nil => simp only [lxOf, hp, h]; simp [outT]
  | cons p l => simp
structure LnOk (b : LnB) (r : Nat) : Prop where
  sg : b.1.sg = []
  pb : b.1.pb.length + r ≤ 20
  nm : b.2.1.length + (b.1.pb.map (·.length)).sum + r ≤ 20
  len : b.2.2.length = 5
theorem LnOk.push {coming : List Int} {turn k : Int} {b : LnB} {r : Nat} (h : LnOk b (r + 1)) : LnOk (lnPush coming turn b.1 k, b.2.1, b.2.2) r := by
  obtain ⟨h1, h2, h3, h4⟩ := h
  unfold lnPush
  split
  · refine ⟨h1, by simp; omega, ?_, h4⟩
    simp only [List.map_append, List.sum_append, List.map_cons, List.map_nil, List.sum_cons, List.sum_nil, List.length_cons, List.length_nil]
    omega
  · exact ⟨h1, (show b.1.pb.length + r ≤ 20 by omega), (show b.2.1.length + (b.1.pb.map (·.length)).sum + r ≤ 20 by omega), h4⟩
theorem LnOk.take {counters : List Int} {k : Int} {b : LnB} {r : Nat} (h : LnOk b r) : LnOk (lnTake counters b k) r := by
  obtain ⟨h1, h2, h3, h4⟩ := h
  unfold lnTake
  split
  · obtain ⟨p1, p2⟩ := tokR_pb h1
    refine ⟨tokR_nil h1, by show (tokR b.1).2.pb.length + r ≤ 20; omega, ?_, by simp [h4]⟩
    show (b.2.1 ++ (tokR b.1).1).length + _ + r ≤ 20
    simp only [List.length_append]
    omega
  · exact ⟨h1, h2, h3, h4⟩
theorem LnOk.step {coming counters : List Int} {turn k : Int} {b : LnB} {r : Nat} (h : LnOk b (r + 1)) : LnOk (lnStep coming counters turn b k) r := h.push.take
noncomputable abbrev lnV : List Str := ["lexer", "coming", "counters", "served", "names", "turn", "k", "name"]
noncomputable abbrev lnR (L A : Addr) (coming counters : List Int) (names : List Nat) (turn k : Option D) (name : Option D) : List (Option D) := [some (.raw (.ref L)), some (dI coming), some (dI counters), some (.raw (.ref A)), some (.str (S names)), turn, k, name]
noncomputable abbrev lnSc : Scope := fdScope (top 17)
noncomputable abbrev lnBo : List Stmt := fdBody (top 17)
noncomputable abbrev lnFo : Stmt := nthS lnBo 2
noncomputable abbrev lnFi : Stmt := nthS (forB lnFo) 0
theorem sg_nil {x : Lx} (h : x.sg = []) : SgOk x [] := ⟨by rw [h]; simp, by rw [h]; rfl, by rw [h]; simp⟩
section
variable {hS : Heap} {prog : Program} {w : World} {n : Nat}
variable {a : LA} {ok : LA.Ok hS a} {A : Addr} {h1 : hS.get? A = none} {h2 : ¬ (lexW hS a ok).foot A}
theorem abc_item {k : Int} (h : 0 ≤ k ∧ k < 5) : 0 ≤ k ∧ k < 2 ^ 63 ∧ ([97, 98, 99, 100, 101] : List Nat)[k.toNat]? = some (97 + k.toNat) := by
  have : k = 0 ∨ k = 1 ∨ k = 2 ∨ k = 3 ∨ k = 4 := by omega
  rcases this with rfl | rfl | rfl | rfl | rfl <;> exact ⟨by decide, by decide, by decide⟩
set_option maxHeartbeats 2000000 in
theorem w_lnTurn (hS0 : Base hS) (B : LexBase hS) {coming counters : List Int} (l1 : coming.length = 5) (l2 : counters.length = 5) {b : LnB} {turn k : Int} {r : Nat} (hb : LnOk b (r + 1)) (hk : 0 ≤ k ∧ k < 5) {o : Option D} :
    ∃ o', EX prog w (n + 5) ((lexW hS a ok).own A h1 h2) lnSc lnV (lnR a.LX A coming counters b.2.1 (some (.int turn)) (some (.int k)) o) (b.1, b.2.2.map D.int) (forB lnFi)
      (.next (lnR a.LX A coming counters (lnStep coming counters turn b k).2.1 (some (.int turn)) (some (.int k)) o') ((lnStep coming counters turn b k).1, (lnStep coming counters turn b k).2.2.map D.int)) := by
  have ic := itemI (l := coming) (k := k) hk.1 (by omega) (by omega)
  have it := itemI (l := counters) (k := k) hk.1 (by omega) (by omega)
  have is := itemI (l := b.2.2) (k := k) hk.1 (by omega) (by have := hb.len; omega)
  have hp := hb.push (coming := coming) (turn := turn) (k := k)
  have hlk := hb.len
  -- behind the push
  have second : ∀ x1 : Lx, LnOk (x1, b.2.1, b.2.2) r → ∃ o', EX prog w (n + 5) ((lexW hS a ok).own A h1 h2) lnSc lnV (lnR a.LX A coming counters b.2.1 (some (.int turn)) (some (.int k)) o) (x1, b.2.2.map D.int) [nthS (forB lnFi) 1]
      (.next (lnR a.LX A coming counters (lnTake counters (x1, b.2.1, b.2.2) k).2.1 (some (.int turn)) (some (.int k)) o') ((lnTake counters (x1, b.2.1, b.2.2) k).1, (lnTake counters (x1, b.2.1, b.2.2) k).2.2.map D.int)) := fun x1 hx1 => by
    by_cases hc : (counters.getD k.toNat 0 == 1 && b.2.2.getD k.toNat 0 == 0) = true
    · refine ⟨some (.str (S (tokR x1).1)), ?_⟩
      have e : lnTake counters (x1, b.2.1, b.2.2) k = ((tokR x1).2, b.2.1 ++ (tokR x1).1, b.2.2.set k.toNat ((tokR x1).1.length : Int)) := by unfold lnTake; rw [if_pos hc]
      rw [e]
      have tp := tokR_pb (x := x1) hx1.sg
      have hnm := hx1.nm
      refine aIf (b := counters.getD k.toNat 0 == 1 && b.2.2.getD k.toNat 0 == 0) (st₁ := (x1, b.2.2.map D.int)) ?tst (fun _ => ?_) (fun h => by rw [hc] at h; cases h)
      case tst => 
        refine ET.and (st₁ := (x1, b.2.2.map D.int)) (tC ?a1 (EV.int 1) op_eq ⟨rfl⟩) (fun _ => tC ?a2 (EV.int 0) op_eq ⟨rfl⟩) (fun _ => rfl)
        case a1 => exact aItem (aN (.there (.there .here)) ⟨by decide +kernel⟩) (aN (.there (.there (.there (.there (.there (.there .here)))))) ⟨by decide +kernel⟩) (oLitem it ⟨by intro _ _; rfl⟩)
        case a2 => exact aItemW (aN (.there (.there (.there .here))) ⟨by decide +kernel⟩) (aN (.there (.there (.there (.there (.there (.there .here)))))) ⟨by decide +kernel⟩) (ownItem is ⟨by intro _ _; rfl⟩)
      refine aSet (d := .str (S (tokR x1).1)) (st₁ := ((tokR x1).2, b.2.2.map D.int)) ?tk (.there (.there (.there (.there (.there (.there (.there .here))))))) ?_ ⟨by decide +kernel⟩ ⟨fun _ _ => rfl⟩
      case tk => exact EV.methW (st₁ := (x1, b.2.2.map D.int)) (st₂ := (x1, b.2.2.map D.int)) (aN .here ⟨by decide +kernel⟩) (HasMethW.frame (W := lexW hS a ok) (st := x1) _ (meth_lex (ok := ok) B (.inr (.inl ⟨rfl, rfl⟩)))) ⟨_, rfl⟩ B.tok.callee .nil (OpW.frame _ (c_token (n := n + 1) hS0.lim B hS0.iter (sg_nil hx1.sg) (by have := hx1.pb; exact Nat.le_trans (Nat.le_trans (Nat.le_add_right _ _) this) (by decide))))
      refine aAug (st₁ := ((tokR x1).2, b.2.2.map D.int)) (.there (.there (.there (.there .here)))) (aN (.there (.there (.there (.there (.there (.there (.there .here))))))) ⟨by decide +kernel⟩) (op_isadd ?sz) (.there (.there (.there (.there .here)))) ?_ ⟨by decide +kernel⟩
      case sz =>
        have h3 : b.2.1.length ≤ 20 := by simp only at hnm; omega
        have h4 : (tokR x1).1.length ≤ 20 := by simp only at hnm; omega
        omega
      refine EX.setOwn (W := lexW hS a ok) (a := A) (h1 := h1) (h2 := h2) (st := (tokR x1).2) (st' := ((tokR x1).2, b.2.2.map D.int)) (st'' := ((tokR x1).2, b.2.2.map D.int)) (l := b.2.2.map D.int) (l' := (b.2.2.set k.toNat ((tokR x1).1.length : Int)).map D.int) (k := k) (d := .int ((tokR x1).1.length : Int)) ?sv ?so ?si ⟨hk.1, by omega, by rw [List.length_map, hlk]; omega⟩ rfl (by simp [List.map_set]) EX.nil (hsw := ?hsw)
      case hsw => intro _; rfl
      case sv => exact EV.call (aB hS0.len ⟨by decide +kernel⟩) (.builtin _) (.cons (aN (.there (.there (.there (.there (.there (.there (.there .here))))))) ⟨by decide +kernel⟩) .nil fun _ => rfl) (op_slen (by simp only at hnm; omega))
      case so => exact aN (.there (.there (.there .here))) ⟨by decide +kernel⟩
      case si => exact aN (.there (.there (.there (.there (.there (.there .here)))))) ⟨by decide +kernel⟩
    · refine ⟨o, ?_⟩
      have e : lnTake counters (x1, b.2.1, b.2.2) k = (x1, b.2.1, b.2.2) := by unfold lnTake; rw [if_neg hc]
      rw [e]
      refine aIf (b := counters.getD k.toNat 0 == 1 && b.2.2.getD k.toNat 0 == 0) (st₁ := (x1, b.2.2.map D.int)) ?tstB (fun h => absurd h hc) (fun _ => EX.nil)
      case tstB => 
        refine ET.and (st₁ := (x1, b.2.2.map D.int)) (tC ?b1 (EV.int 1) op_eq ⟨rfl⟩) (fun _ => tC ?b2 (EV.int 0) op_eq ⟨rfl⟩) (fun _ => rfl)
        case b1 => exact aItem (aN (.there (.there .here)) ⟨by decide +kernel⟩) (aN (.there (.there (.there (.there (.there (.there .here)))))) ⟨by decide +kernel⟩) (oLitem it ⟨by intro _ _; rfl⟩)
        case b2 => exact aItemW (aN (.there (.there (.there .here))) ⟨by decide +kernel⟩) (aN (.there (.there (.there (.there (.there (.there .here)))))) ⟨by decide +kernel⟩) (ownItem is ⟨by intro _ _; rfl⟩)
  by_cases hc : (turn == 0 && coming.getD k.toNat 0 == 1) = true
  · have e : lnPush coming turn b.1 k = { b.1 with pb := b.1.pb ++ [[97 + k.toNat]] } := by unfold lnPush; rw [if_pos hc]
    obtain ⟨o', h⟩ := second _ hp
    refine ⟨o', ?_⟩
    unfold lnStep
    rw [e] at h ⊢
    refine aIf (b := turn == 0 && coming.getD k.toNat 0 == 1) (st₁ := (b.1, b.2.2.map D.int)) ?tst2 (fun _ => ?_) (fun h => by rw [hc] at h; cases h)
    case tst2 => 
      refine ET.and (st₁ := (b.1, b.2.2.map D.int)) (tC (aN (.there (.there (.there (.there (.there .here))))) ⟨by decide +kernel⟩) (EV.int 0) op_eq ⟨rfl⟩) (fun _ => tC ?a4 (EV.int 1) op_eq ⟨rfl⟩) (fun _ => rfl)
      case a4 => exact aItem (aN (.there .here) ⟨by decide +kernel⟩) (aN (.there (.there (.there (.there (.there (.there .here)))))) ⟨by decide +kernel⟩) (oLitem ic ⟨by intro _ _; rfl⟩)
    refine EX.expr (d := .none) (st₁ := ({ b.1 with pb := b.1.pb ++ [[97 + k.toNat]] }, b.2.2.map D.int)) ?v h
    case v =>
      refine EV.methW (st₁ := (b.1, b.2.2.map D.int)) (st₂ := (b.1, b.2.2.map D.int)) (aN .here ⟨by decide +kernel⟩) (HasMethW.frame (W := lexW hS a ok) (st := b.1) _ (meth_lex (ok := ok) B (.inr (.inr ⟨rfl, rfl⟩)))) ⟨_, rfl⟩ B.push.callee (.cons ?arg2 .nil fun _ => rfl) (OpW.frame _ (c_push (n := n + 4) hS0.lim B (by have := hb.pb; exact Nat.le_trans (Nat.le_trans (Nat.le_add_right _ _) this) (by decide))))
      case arg2 => exact aItem (EV.str [97, 98, 99, 100, 101]) (aN (.there (.there (.there (.there (.there (.there .here)))))) ⟨by decide +kernel⟩) (oSitem (abc_item hk) ⟨by intro _ _; rfl⟩)
  · have e : lnPush coming turn b.1 k = b.1 := by unfold lnPush; rw [if_neg hc]
    obtain ⟨o', h⟩ := second _ hp
    refine ⟨o', ?_⟩
    unfold lnStep
    rw [e] at h ⊢
    refine aIf (b := turn == 0 && coming.getD k.toNat 0 == 1) (st₁ := (b.1, b.2.2.map D.int)) ?tst3 (fun h => absurd h hc) (fun _ => h)
    case tst3 => 
      refine ET.and (st₁ := (b.1, b.2.2.map D.int)) (tC (aN (.there (.there (.there (.there (.there .here))))) ⟨by decide +kernel⟩) (EV.int 0) op_eq ⟨rfl⟩) (fun _ => tC ?a5 (EV.int 1) op_eq ⟨rfl⟩) (fun _ => rfl)
      case a5 => exact aItem (aN (.there .here) ⟨by decide +kernel⟩) (aN (.there (.there (.there (.there (.there (.there .here)))))) ⟨by decide +kernel⟩) (oLitem ic ⟨by intro _ _; rfl⟩)
theorem lnOk_foldl {coming counters : List Int} {turn : Int} : ∀ (ks : List Int) (b : LnB) (r : Nat), LnOk b (r + ks.length) → LnOk (ks.foldl (lnStep coming counters turn) b) r
  | [], b, r, h => h
  | k :: ks, b, r, h => lnOk_foldl ks _ r (LnOk.step (r := r + ks.length) h)
theorem lnNames_eq (coming : List Int) : (((zs 0 5).filter fun k => coming.getD k.toNat 0 == 1).map fun k => [97 + k.toNat]).flatten = lnNames coming := rfl
set_option maxHeartbeats 2000000 in
theorem w_line (hS0 : Base hS) (B : LexBase hS) {coming counters : List Int} {x : Lx} (l1 : coming.length = 5) (l2 : counters.length = 5) (hx : x.sg = []) (hpb : x.pb = []) :
    EX prog w (n + 5) (lexW hS a ok) lnSc lnV [some (.raw (.ref a.LX)), some (dI coming), some (dI counters), none, none, none, none, none] x lnBo (.ret (dI (lineF coming counters x)) (lnAll coming counters x).1) := by
  refine EX.own (st₁ := x) (ds := ([0, 0, 0, 0, 0] : List Int).map D.int) (fun A => [some (.raw (.ref a.LX)), some (dI coming), some (dI counters), some (.raw (.ref A)), none, none, none, none]) (EVn.display (.cons (EV.int 0) (.cons (EV.int 0) (.cons (EV.int 0) (.cons (EV.int 0) (.cons (EV.int 0) .nil fun _ => rfl) fun _ => rfl) fun _ => rfl) fun _ => rfl) fun _ => rfl) rfl (by simp)) (fun A => .there (.there (.there .here))) (fun A h1 h2 => ⟨.ret (dI (lineF coming counters x)) ((lnAll coming counters x).1, (lnAll coming counters x).2.2.map D.int), ?_, .same⟩)
  refine aSet (d := .str (S [])) (st₁ := (x, ([0, 0, 0, 0, 0] : List Int).map D.int)) (EV.str []) (.there (.there (.there (.there .here)))) ?_ ⟨by decide +kernel⟩ ⟨fun _ _ => rfl⟩
  refine EX.fold ["turn"] [0, 1] D.int (lnTurn coming counters) (x, [], [0, 0, 0, 0, 0]) (fun b => lnR a.LX A coming counters b.2.1 none none none) (fun b t => lnR a.LX A coming counters b.2.1 (some (.int t)) none none) (fun b => (b.1, b.2.2.map D.int)) (fun b l => LnOk b (5 * l.length)) ?src (.same (.same (.same (.same (.same (.same (.same (.same .nil)))))))) ?ok0 ?htx ?turn ?fin (hfs := ?hfs)
  case hfs => intro _ _; rfl
  case htx => decide +kernel
  case src => exact aItT (aS (EV.int 0) (aS (EV.int 1) .nil ⟨fun _ => rfl⟩) ⟨fun _ => rfl⟩) ⟨by decide +kernel⟩
  case ok0 => exact ⟨hx, by simp [hpb], by simp [hpb], rfl⟩
  case turn =>
    intro b t post ok0
    have ok1 : LnOk b (5 * post.length + (zs 0 5).length) := by
      have : (5 * post.length + (zs 0 5).length) = 5 * (t :: post).length := by simp [zs]; omega
      rw [this]; exact ok0
    refine ⟨AS.var (.there (.there (.there (.there (.there .here))))), lnOk_foldl _ _ _ ok1, lnR a.LX A coming counters (lnTurn coming counters b t).2.1 (some (.int t)) none none, .inl ?inner, .same (.same (.same (.same (.same (.off (.same (.same .nil)))))))⟩
    case inner =>
      refine EX.fold ["k"] (zs 0 5) D.int (lnStep coming counters t) b (fun b => lnR a.LX A coming counters b.2.1 (some (.int t)) none none) (fun b k => lnR a.LX A coming counters b.2.1 (some (.int t)) (some (.int k)) none) (fun b => (b.1, b.2.2.map D.int)) (fun b l => LnOk b (5 * post.length + l.length) ∧ ∀ k ∈ l, 0 ≤ k ∧ k < 5) ?src2 (.same (.same (.same (.same (.same (.same (.same (.same .nil)))))))) ⟨ok1, by decide⟩ ?htx2 ?turn2 ?fin2 (hfs := ?hfs2)
      case hfs2 => intro _ _; rfl
      case htx2 => decide +kernel
      case src2 => exact aRange1 (aB hS0.range ⟨by decide +kernel⟩) (EV.int 5) ⟨by decide, by decide, rfl⟩ ⟨fun _ => rfl⟩
      case turn2 =>
        intro b k post2 ok2
        obtain ⟨o2, hk⟩ := ok2
        have o2' : LnOk b ((5 * post.length + post2.length) + 1) := o2
        obtain ⟨o', h⟩ := w_lnTurn (prog := prog) (w := w) (n := n) (h1 := h1) (h2 := h2) hS0 B l1 l2 (turn := t) o2' (hk k (by simp)) (o := none)
        exact ⟨AS.var (.there (.there (.there (.there (.there (.there .here)))))), ⟨o2'.step, fun k' hk' => hk k' (by simp [hk'])⟩, _, .inl h, .same (.same (.same (.same (.same (.same (.off (.off .nil)))))))⟩
      case fin2 =>
        intro b' hb'
        subst hb'
        exact EX.nil
  case fin =>
    intro b hb
    have e : lnAll coming counters x = b := hb.symm
    have okb : LnOk b 0 := by
      have o0 : LnOk (x, [], [0, 0, 0, 0, 0]) (5 + 5) := ⟨hx, by simp [hpb], by simp [hpb], rfl⟩
      have o1 := lnOk_foldl (coming := coming) (counters := counters) (turn := 0) (zs 0 5) _ 5 o0
      have o2 := lnOk_foldl (coming := coming) (counters := counters) (turn := 1) (zs 0 5) _ 0 o1
      rw [hb]
      exact o2
    unfold lineF
    rw [e]
    have hlen := okb.len
    refine aIf (b := b.2.1 != lnNames coming) (st₁ := (b.1, b.2.2.map D.int)) ?tst (fun h => ?_) (fun h => ?_)
    case tst =>
      refine tC (st₁ := (b.1, b.2.2.map D.int)) ?lhs ?rhs op_sne ⟨rfl⟩
      case lhs => exact aN (.there (.there (.there (.there .here)))) ⟨by decide +kernel⟩
      case rhs =>
        rw [← lnNames_eq]
        refine aMeth (st₁ := (b.1, b.2.2.map D.int)) (ds := [dS (((zs 0 5).filter fun k => coming.getD k.toNat 0 == 1).map fun k => [97 + k.toNat])]) (EV.str []) meth_join (aS (st₁ := (b.1, b.2.2.map D.int)) ?comp .nil ⟨fun _ => rfl⟩) (op_join ?jsz) ⟨fun _ => rfl⟩
        case jsz =>
          have h5 : ((zs 0 5).filter fun k => coming.getD k.toNat 0 == 1).length ≤ 5 := Nat.le_trans (List.length_filter_le _ _) (by simp [zs])
          have : ∀ l : List Int, ((l.map fun k => [97 + k.toNat]).map (·.length)).sum = l.length := by
            intro l; induction l with
            | nil => rfl
            | cons a l ih => simp at ih ⊢; omega
          rw [this, List.length_map]; omega
        case comp =>
          rw [← dS_map]
          refine EV.filt ["coming"] (zs 0 5) D.int (fun k => .str (S [97 + k.toNat])) (fun k => coming.getD k.toNat 0 == 1) ?s (.cons (.there .here) .nil) ?t ?e (by simp [zs])
          case s => exact aRange1 (aB hS0.range ⟨by decide +kernel⟩) (EV.int 5) ⟨by decide, by decide, rfl⟩ ⟨fun _ => rfl⟩
          case t =>
            intro k hk
            have hk5 : 0 ≤ k ∧ k < 5 := by obtain ⟨i, hi, rfl⟩ := mem_zs hk; omega
            refine tC (st₁ := (b.1, b.2.2.map D.int)) ?l2 (EV.int 1) op_eq ⟨rfl⟩
            case l2 => exact aItem (aN (.there .here) ⟨by decide +kernel⟩) (aN .here ⟨by decide +kernel⟩) (oLitem (itemI (l := coming) (k := k) hk5.1 (by omega) (by omega)) ⟨by intro _ _; rfl⟩)
          case e =>
            intro k hk _
            have hk5 : 0 ≤ k ∧ k < 5 := by obtain ⟨i, hi, rfl⟩ := mem_zs hk; omega
            exact aItem (EV.str [97, 98, 99, 100, 101]) (aN .here ⟨by decide +kernel⟩) (oSitem (abc_item hk5) ⟨by intro _ _; rfl⟩)
    · have hne : b.2.1 ≠ lnNames coming := by simpa using h
      rw [if_neg hne]
      exact aRet (aL .nil ⟨by decide +kernel⟩) rfl
    · have heq : b.2.1 = lnNames coming := by simpa using h
      rw [if_pos heq]
      refine aRet (d := dI (lnRes counters b.2.2)) ?m rfl
      case m =>
        refine EV.mapI ["counters", "served"] (zs 0 5) D.int (fun k => if counters.getD k.toNat 0 = 1 then 1 - b.2.2.getD k.toNat 0 else 2) ?s2 (.cons (.there (.there .here)) (.cons (.there (.there (.there .here))) .nil)) ?e2 (by simp [zs])
        case s2 => exact aRange1 (aB hS0.range ⟨by decide +kernel⟩) (EV.int 5) ⟨by decide, by decide, rfl⟩ ⟨fun _ => rfl⟩
        case e2 =>
          intro k hk
          have hk5 : 0 ≤ k ∧ k < 5 := by obtain ⟨i, hi, rfl⟩ := mem_zs hk; omega
          refine EV.eq (EV.ifexp (c := counters.getD k.toNat 0 == 1) (st₁ := (b.1, b.2.2.map D.int)) (d1 := .int (1 - b.2.2.getD k.toNat 0)) (d2 := .int 2) ?tt (fun _ => ?y) (fun _ => EV.int 2)) ?q
          case tt =>
            refine tC (st₁ := (b.1, b.2.2.map D.int)) ?l3 (EV.int 1) op_eq ⟨rfl⟩
            case l3 => exact aItem (aN (.there .here) ⟨by decide +kernel⟩) (aN .here ⟨by decide +kernel⟩) (oLitem (itemI (l := counters) (k := k) hk5.1 (by omega) (by omega)) ⟨by intro _ _; rfl⟩)
          case y =>
            refine aBin (st₁ := (b.1, b.2.2.map D.int)) (EV.int 1) ?sv op_sub
            case sv => exact aItemW (aN (.there (.there .here)) ⟨by decide +kernel⟩) (aN .here ⟨by decide +kernel⟩) (ownItem (itemI (l := b.2.2) (k := k) hk5.1 (by omega) (by omega)) ⟨by intro _ _; rfl⟩)
          case q =>
            by_cases hc : counters.getD k.toNat 0 = 1
            · have : (counters.getD k.toNat 0 == 1) = true := by simpa using hc
              rw [if_pos hc, this]; rfl
            · have : (counters.getD k.toNat 0 == 1) = false := by simpa using hc
              rw [if_neg hc, this]; rfl
theorem c_line (hS0 : Base hS) (B : LexBase hS) {coming counters : List Int} {x : Lx} (l1 : coming.length = 5) (l2 : counters.length = 5) (hx : x.sg = []) (hpb : x.pb = []) : OpW (lexW hS a ok) prog w (n + 6) x (Call (.ref 137)) [.raw (.ref a.LX), dI coming, dI counters] (dI (lineF coming counters x)) (lnAll coming counters x).1 :=
  fun_okLW 5 hS0.lim hS0.line.at_ rfl rfl (by decide +kernel) (w_line hS0 B l1 l2 hx hpb)
end
end
section
/-! the making of a lexer -/
theorem tc_weight (v : Value) : (Code.builtin "type.__call__" ⟨[.ref 87, v], []⟩).weight ≤ 3 := by
  have e1 : (Code.builtin "type.__call__" ⟨[.ref 87, v], []⟩).frames = 0 := by unfold Code.frames; rfl
  simp [Code.weight, e1, Code.isCreation, Code.isGuard, Code.isCaller]
  decide +kernel
theorem tc_units (v : Value) : (Code.builtin "type.__call__" ⟨[.ref 87, v], []⟩).cUnits ≤ 4 := by
  have e1 : (Code.builtin "type.__call__" ⟨[.ref 87, v], []⟩).frames = 0 := by unfold Code.frames; rfl
  simp [Code.cUnits, e1]
theorem Room.under_tc {A : Around} {n : Nat} (r : Room A (n + 4)) (v : Value) : Room (A.under (.builtin "type.__call__" ⟨[.ref 87, v], []⟩)) n := by
  have h1 := tc_weight v
  have h2 := tc_units v
  refine ⟨?_, ?_, ?_⟩
  · exact r.handled
  · have := r.depth
    show A.depth + (Code.builtin "type.__call__" ⟨[.ref 87, v], []⟩).weight + n < _
    omega
  · have := r.units
    show A.units + (Code.builtin "type.__call__" ⟨[.ref 87, v], []⟩).cUnits + 4 * n + 40 < _
    omega
section
variable {hS : Heap} {prog : Program} {w : World} {n : Nat}
structure Mk (h₀ : Heap) (X DX : Addr) (m : Str → Option Value) (h : Heap) : Prop where
  inst : h.InstFk X 87 m
  dict : ∀ o, h.get? X = some o → o.dict = some DX
  keep : ∀ b o, b ≠ X → b ≠ DX → h₀.get? b = some o → h.get? b = some o
theorem Mk.grow {h₀ h h' : Heap} {X DX : Addr} {m : Str → Option Value} (M : Mk h₀ X DX m h) (k : ∀ b o, h.get? b = some o → h'.get? b = some o) : Mk h₀ X DX m h' :=
  ⟨instFk_at M.inst M.dict (k _) (k _), dict_at (instFk_alive M.inst M.dict).1 M.dict (k _), fun b o n1 n2 e => k b o (M.keep b o n1 n2 e)⟩
theorem Mk.set (B : LexBase hS) {h₀ : Heap} {X DX : Addr} {m : Str → Option Value} {ns : List Str} {s : Shared} {A : Around} {name : Str} {v : Value} {Q : Unit → Shared → Prop} {E : Value → Shared → Prop} (M : Mk h₀ X DX m s.heap) (stat : ∀ b o, hS.get? b = some o → s.heap.get? b = some o)
    (hX : hS.get? X = none) (hno : name ∈ lexAbsent) (hlo : typeLookup (.type "object") name = pure none) (hw : PySem.Within m ns) (hsz : ns.length ≤ sizeLine)
    (next : ∀ s', Mk h₀ X DX (fun y => if y = name then some v else m y) s'.heap → (∀ b o, b ≠ X → b ≠ DX → s.heap.get? b = some o → s'.heap.get? b = some o) → s'.gens = s.gens → s'.os = s.os → Q () s') : wpAny (model prog w) A (setAttr (.ref X) name v) Q E s := by
  obtain ⟨mN, hn, h1, h2, h3, h4, hab⟩ := B.ns
  obtain ⟨h, g, dr, t, os⟩ := s
  have hne : X ≠ 87 := fun z => by rw [z, B.cls] at hX; cases hX
  refine store_attrFk (ns := ns) F.store_object (stat _ _ B.cls) (hn.keeps stat) (hab _ (by decide +kernel)) (hab _ hno) hlo hne M.inst (fun h' tk' I' keep same => ?_) hw hsz
  have keep' : ∀ b o, b ≠ X → b ≠ DX → h.get? b = some o → h'.get? b = some o := fun b o n1 n2 e => keep b o n1 (fun o₀ dx e0 ed => by
    have := M.dict o₀ e0
    rw [ed] at this; cases this; exact n2) e
  refine next _ ⟨I', ?_, fun b o n1 n2 e => keep' b o n1 n2 (M.keep b o n1 n2 e)⟩ keep' rfl rfl
  obtain ⟨o₀, ho₀, _⟩ := id M.inst
  obtain ⟨o₁, ho₁, _, _, _, hdx⟩ := same o₀ ho₀
  intro o ho
  have : h'.get? X = some o := ho
  rw [ho₁] at this; cases this
  exact hdx _ (M.dict o₀ ho₀)
structure LexMade (h₀ h : Heap) (X DX PB : Addr) (v : Value) : Prop where
  inst : ∃ m, h.InstFk X 87 m ∧ (∃ t, m "lineno" = some (.int 1 t)) ∧ m "instream" = some v ∧ (∃ t, m "whitespace" = some (.str (S lexWs) t)) ∧ m "pushback" = some (.ref PB) ∧ PySem.Within m lexF
  dict : ∀ o, h.get? X = some o → o.dict = some DX
  pb : h.PlainList PB #[]
  keep : ∀ b o, b ≠ X → b ≠ DX → h₀.get? b = some o → h.get? b = some o
noncomputable abbrev inB : List Stmt := fdBody (mth 0)
set_option maxHeartbeats 2000000 in
theorem init_call (hl : hS.NoLimit) (B : LexBase hS) {A : Around} {s : Shared} {X DX : Addr} {v : Value} (r : Room A (n + 1)) (stat : ∀ b o, hS.get? b = some o → s.heap.get? b = some o) (hX : hS.get? X = none) (hD : hS.get? DX = none)
    (I : s.heap.InstFk X 87 fun _ => none) (hd : ∀ o, s.heap.get? X = some o → o.dict = some DX) :
    wpAny (model prog w) A (call (.ref 63) [.ref X, v]) (fun r s' => r = .none ∧ ∃ PB, s.heap.get? PB = none ∧ LexMade s.heap s'.heap X DX PB v ∧ s'.gens = s.gens ∧ s'.os = s.os) (fun _ _ => False) s := by
  obtain ⟨o, fd, ho, hdd, hcl, hgl, hbl, hbd, hsc, hcd, hbind⟩ := B.init.at_
  refine wpAny_call (codeAny_call_function (fd := fd) (body := inB) (by have := r.depth; omega) (stat _ _ ho) hdd (by rw [hsc]; rfl) (by rw [hsc]; rfl) hbd (hcd.keeps stat) ?_)
  have hb1 := hbind [.ref X, v] rfl
  refine Eq.mp (congrArg (fun z => wpAny _ _ z _ _ _) hb1.symm) ?_
  rw [hcl, hgl, hbl, hsc]
  refine wpAny_pure (wpAny_newFunctionEnv (show ∀ y ∈ (fdScope (mth 0)).names, y.2 ≠ NameKind.cell by decide +kernel) (fun y hy => ?_) (fun h1 hns hsb => ⟨(hl.keeps stat).fresh _ hsb, codeAny_func ?_⟩) rfl)
  · simp at hy
    rcases hy with rfl | rfl
    · exact (show (fdScope (mth 0)).names.lookup (Str.ofString "self") = some NameKind.local by decide +kernel)
    · exact (show (fdScope (mth 0)).names.lookup (Str.ofString "fp") = some NameKind.local by decide +kernel)
  have hk₁ : ∀ b o, s.heap.get? b = some o → h1.get? b = some o := fun b o e => hsb.extBut b o (Nat.ne_of_lt (Heap.lt_size e)) (Heap.get?_push_of_some _ e)
  have M0 : Mk s.heap X DX (fun _ => none) h1 := Mk.grow ⟨I, hd, fun b o _ _ e => e⟩ hk₁
  have st1 : ∀ b o, hS.get? b = some o → h1.get? b = some o := fun b o e => hk₁ b o (stat b o e)
  obtain ⟨⟨oX, hoX⟩, oD, hoD⟩ := instFk_alive I hd
  have hLX : s.heap.objs.size ≠ X := fun q => Nat.lt_irrefl _ (q ▸ Heap.lt_size hoX)
  have hLD : s.heap.objs.size ≠ DX := fun q => Nat.lt_irrefl _ (q ▸ Heap.lt_size hoD)
  generalize hA : A.deeper (newEnv (fdScope (mth 0)) s.heap.objs.size mainGlobals [] (fd.qualname ++ Str.ofString ".<locals>.") (some 63) fd.code none builtinsNs) = A1
  have kS : (newEnv (fdScope (mth 0)) s.heap.objs.size mainGlobals [] (fd.qualname ++ Str.ofString ".<locals>.") (some 63) fd.code none builtinsNs).kindOf (Str.ofString "self") = some .local := (show (fdScope (mth 0)).names.lookup (Str.ofString "self") = some NameKind.local by decide +kernel)
  have kF : (newEnv (fdScope (mth 0)) s.heap.objs.size mainGlobals [] (fd.qualname ++ Str.ofString ".<locals>.") (some 63) fd.code none builtinsNs).kindOf (Str.ofString "fp") = some .local := (show (fdScope (mth 0)).names.lookup (Str.ofString "fp") = some NameKind.local by decide +kernel)
  have hkf : (newEnv (fdScope (mth 0)) s.heap.objs.size mainGlobals [] (fd.qualname ++ Str.ofString ".<locals>.") (some 63) fd.code none builtinsNs).scope.kind = .function := rfl
  have hloc : (newEnv (fdScope (mth 0)) s.heap.objs.size mainGlobals [] (fd.qualname ++ Str.ofString ".<locals>.") (some 63) fd.code none builtinsNs).locals = s.heap.objs.size := rfl
  generalize newEnv (fdScope (mth 0)) s.heap.objs.size mainGlobals [] (fd.qualname ++ Str.ofString ".<locals>.") (some 63) fd.code none builtinsNs = env at kS kF hkf hloc
  have lkS : (fun y => List.lookup y [(Str.ofString "self", Value.ref X), (Str.ofString "fp", v)].reverse) (Str.ofString "self") = some (.ref X) := by
    have : ((Str.ofString "self") == Str.ofString "fp") = false := by decide +kernel
    simp [List.lookup, this]
  have lkF : (fun y => List.lookup y [(Str.ofString "self", Value.ref X), (Str.ofString "fp", v)].reverse) (Str.ofString "fp") = some v := by simp [List.lookup]
  have hns1 : h1.Ns env.locals (fun y => List.lookup y [(Str.ofString "self", Value.ref X), (Str.ofString "fp", v)].reverse) := by rw [hloc]; exact hns
  generalize (fun y => List.lookup y [(Str.ofString "self", Value.ref X), (Str.ofString "fp", v)].reverse) = ml at lkS lkF hns1
  have step : ∀ {s1 : Shared} {m : Str → Option Value} {ns : List Str} {name : Str} {u : Value} {p : Pos} {Q : Shared → Prop} {E : Value → Shared → Prop}, Mk s.heap X DX m s1.heap → s1.heap.Ns env.locals ml → (∀ b o, hS.get? b = some o → s1.heap.get? b = some o) → name ∈ lexAbsent → typeLookup (.type "object") name = pure none → PySem.Within m ns → ns.length ≤ sizeLine →
      (∀ s2, Mk s.heap X DX (fun y => if y = name then some u else m y) s2.heap → s2.heap.Ns env.locals ml → (∀ b o, hS.get? b = some o → s2.heap.get? b = some o) → (∀ b o, b ≠ X → b ≠ DX → s1.heap.get? b = some o → s2.heap.get? b = some o) → s2.gens = s1.gens → s2.os = s1.os → Q s2) →
      wpAny (model prog w) A1 (eval (.Name "self" p) env) (fun ov s2 => wpAny (model prog w) A1 (setAttr ov name u) (fun _ => Q) E s2) E s1 := fun {s1 m ns name u p Q E} M hn st ha hlo hw hz next => by
    refine wpAny_Name (wpAny_loadName_local hkf kS hn lkS ?_) (by decide +kernel)
    refine M.set B st hX ha hlo hw hz fun s2 M2 k2 g2 o2 => next s2 M2 (hn.at' fun o e => k2 _ o (hloc ▸ hLX) (hloc ▸ hLD) e) (fun b o e => k2 b o (fun q => by rw [q, hX] at e; cases e) (fun q => by rw [q, hD] at e; cases e) (st b o e)) k2 g2 o2
  refine wpAny_execs_cons (plainObj_wpAny_Assign_Attribute (wpAny_Constant_int ?_) (by rfl))
  refine step M0 hns1 st1 (by decide +kernel) lo_lineno PySem.Within.nil (by decide) fun s2 M2 hn2 st2 k2 g2 o2 => ?_
  refine wpAny_execs_cons (plainObj_wpAny_Assign_Attribute (wpAny_Name (wpAny_loadName_local hkf kF hn2 lkF ?_) (by decide +kernel)) (by rfl))
  refine step M2 hn2 st2 (by decide +kernel) lo_instream (PySem.Within.cons _ _ PySem.Within.nil) (by decide) fun s3 M3 hn3 st3 k3 g3 o3 => ?_
  refine wpAny_execs_cons (plainObj_wpAny_Assign_Attribute (Calls.Constant_str ?_) (by rfl))
  refine step M3 hn3 st3 (by decide +kernel) lo_whitespace (PySem.Within.cons _ _ (PySem.Within.cons _ _ PySem.Within.nil)) (by decide) fun s4 M4 hn4 st4 k4 g4 o4 => ?_
  refine wpAny_execs_cons (plainObj_wpAny_Assign_Attribute (List_ (args_nil (wpAny_newObj_type ?_ (by size_fits)))) (by rfl))
  have kp : ∀ b o, s4.heap.get? b = some o → (s4.heap.push { cls := .type "list", data := .seq #[] }).get? b = some o := fun b o e => Heap.get?_push_of_some _ e
  refine step (M4.grow kp) (hn4.at' (kp _)) (fun b o e => kp b o (st4 b o e)) (by decide +kernel) lo_pushback (PySem.Within.cons _ _ (PySem.Within.cons _ _ (PySem.Within.cons _ _ PySem.Within.nil))) (by decide) fun s5 M5 hn5 st5 k5 g5 o5 => ?_
  refine wpAny_execs_nil ?_
  have k15 : ∀ b o, b ≠ X → b ≠ DX → h1.get? b = some o → s4.heap.get? b = some o := fun b o n1 n2 e => k4 b o n1 n2 (k3 b o n1 n2 (k2 b o n1 n2 e))
  have hPB : (s4.heap.push { cls := .type "list", data := .seq #[] }).get? s4.heap.objs.size = some { cls := .type "list", data := .seq #[] } := Heap.get?_push_size _ rfl
  have al4 := instFk_alive M4.inst M4.dict
  have hPX : s4.heap.objs.size ≠ X := fun q => by obtain ⟨⟨o, e⟩, _⟩ := al4; exact Nat.lt_irrefl _ (q ▸ Heap.lt_size e)
  have hPD : s4.heap.objs.size ≠ DX := fun q => by obtain ⟨_, o, e⟩ := al4; exact Nat.lt_irrefl _ (q ▸ Heap.lt_size e)
  refine ⟨rfl, s4.heap.objs.size, ?_, ⟨⟨_, M5.inst, ?_, ?_, ?_, ?_, ?_⟩, M5.dict, ⟨_, k5 _ _ hPX hPD hPB⟩, M5.keep⟩, g5.trans (g4.trans (g3.trans g2)), o5.trans (o4.trans (o3.trans o2))⟩
  · cases q : s.heap.get? s4.heap.objs.size with
    | none => rfl
    | some o => exact absurd (Heap.lt_size (M4.keep _ o hPX hPD q)) (Nat.lt_irrefl _)
  · have n1 : ¬ (Str.ofString "lineno" = Str.ofString "pushback") := by decide +kernel
    have n2 : ¬ (Str.ofString "lineno" = Str.ofString "whitespace") := by decide +kernel
    have n3 : ¬ (Str.ofString "lineno" = Str.ofString "instream") := by decide +kernel
    refine ⟨s.toks + 2, ?_⟩
    simp only [n1, n2, n3, if_false, if_true]
    rfl
  · have n1 : ¬ (Str.ofString "instream" = Str.ofString "pushback") := by decide +kernel
    have n2 : ¬ (Str.ofString "instream" = Str.ofString "whitespace") := by decide +kernel
    simp only [n1, n2, if_false, if_true]
  · have n1 : ¬ (Str.ofString "whitespace" = Str.ofString "pushback") := by decide +kernel
    refine ⟨s3.toks, ?_⟩
    simp only [n1, if_false, if_true]
    exact congrArg (fun z => some (Value.str z s3.toks)) (show Str.ofString "\n\t\r " = S lexWs by decide +kernel)
  · simp only [if_true]
  · intro y hy
    have hy' : (if y = Str.ofString "pushback" then some (Value.ref s4.heap.objs.size) else if y = Str.ofString "whitespace" then _ else if y = Str.ofString "instream" then some v else if y = Str.ofString "lineno" then _ else (none : Option Value)) ≠ none := hy
    by_cases q1 : y = Str.ofString "pushback"
    · subst q1; simp
    · by_cases q2 : y = Str.ofString "whitespace"
      · subst q2; simp
      · by_cases q3 : y = Str.ofString "instream"
        · subst q3; simp
        · by_cases q4 : y = Str.ofString "lineno"
          · subst q4; simp
          · rw [if_neg q1, if_neg q2, if_neg q3, if_neg q4] at hy'; exact absurd rfl hy'
end
end
section
section
variable {hS : Heap} {prog : Program} {w : World} {n : Nat}
theorem make_lex (hl : hS.NoLimit) (B : LexBase hS) {A : Around} {s : Shared} {v : Value} (r : Room A (n + 5)) (stat : ∀ b o, hS.get? b = some o → s.heap.get? b = some o) :
    wpAny (model prog w) A (call (.ref 87) [v]) (fun r s' => ∃ X DX PB, r = .ref X ∧ s.heap.get? X = none ∧ s.heap.get? DX = none ∧ s.heap.get? PB = none ∧ X ≠ DX ∧ X ≠ PB ∧ DX ≠ PB ∧ LexMade s.heap s'.heap X DX PB v ∧ s'.gens = s.gens ∧ s'.os = s.os) (fun _ _ => False) s := by
  obtain ⟨mN, hn, h1, h2, h3, h4, hab⟩ := B.ns
  obtain ⟨o, ho, hc⟩ := B.fns 63 (by simp)
  obtain ⟨h, g, dr, t, os⟩ := s
  refine wpAny_call_obj_initFk F.objNew (stat _ _ B.cls) (hn.keeps stat) h1 (stat _ _ ho) hc fun h' X DX M => ?_
  have notS : ∀ b, h.get? b = none → hS.get? b = none := fun b hb => by
    cases e : hS.get? b with
    | none => rfl
    | some o => have := stat b o e; rw [show ({ heap := h, gens := g, drawn := dr, toks := t, os := os } : Shared).heap.get? b = h.get? b from rfl, hb] at this; cases this
  have al := instFk_alive M.inst M.dict
  have hXD : X ≠ DX := fun q => by
    obtain ⟨ox, hx, _, _, hdd⟩ := M.inst
    rcases hdd with ⟨e, _⟩ | ⟨d', e, hne, _⟩
    · have := M.dict ox hx; rw [e] at this; cases this
    · have := M.dict ox hx; rw [e] at this; cases this; exact hne q.symm
  refine wpAny_mono (init_call (n := n) (s := ⟨h', g, dr, t, os⟩) hl B (r.under_tc v) (fun b o e => M.keeps b o (stat b o e)) (notS X M.newX) (notS DX M.newD) M.inst M.dict) (fun r' s' z => ?_) fun _ _ f => f
  obtain ⟨rfl, PB, hPB, LM, hg, ho⟩ := z
  refine ⟨rfl, X, DX, PB, rfl, M.newX, M.newD, ?_, hXD, ?_, ?_, ⟨LM.inst, LM.dict, LM.pb, fun b o n1 n2 e => LM.keep b o n1 n2 (M.keeps b o e)⟩, hg, ho⟩
  · cases e : h.get? PB with
    | none => rfl
    | some o => have := M.keeps PB o e; rw [show h'.get? PB = none from hPB] at this; cases this
  · rintro rfl; obtain ⟨⟨o, e⟩, _⟩ := al; rw [show h'.get? X = none from hPB] at e; cases e
  · rintro rfl; obtain ⟨_, o, e⟩ := al; rw [show h'.get? DX = none from hPB] at e; cases e
structure StreamMade (h₀ h : Heap) (ST DS FN CL CD SG : Addr) : Prop where
  inst : ∃ m, h.InstFk ST 87 m ∧ m "read" = some (.ref FN)
  dict : ∀ o, h.get? ST = some o → o.dict = some DS
  fn : ∃ pm ctv, h.get? FN = some (kla_obj "<lambda>" lamQ (lamP lamE) (lamB lamE) (lamS lamE) [("signs", CL)] pm CD ctv)
  code : h.CodeRec (.ref CD) lamQ
  cell : h.IsCell CL (some (.ref SG))
  tab : ∃ ps, h.get? 93 = some (tabObj ps)
  keep : ∀ b o, b ≠ 93 → h₀.get? b = some o → h.get? b = some o
  fresh : ∀ b ∈ [ST, DS, FN, CL, CD], h₀.get? b = none
  nd : [ST, DS, FN, CL, CD].Nodup
noncomputable abbrev stS : Scope := fdScope (top 10)
noncomputable abbrev stB : List Stmt := fdBody (top 10)
set_option maxHeartbeats 4000000 in
theorem stream_call (hS0 : Base hS) (B : LexBase hS) {A : Around} {s : Shared} {SG : Addr} (r : Room A (n + 8)) (stat : ∀ b o, hS.get? b = some o → s.heap.get? b = some o) (h93 : s.heap.get? 93 = some (tabObj #[])) :
    wpAny (model prog w) A (call (.ref 98) [.ref SG]) (fun r s' => ∃ ST DS FN CL CD, r = .ref ST ∧ StreamMade s.heap s'.heap ST DS FN CL CD SG ∧ s'.gens = s.gens ∧ s'.os = s.os) (fun _ _ => False) s := by
  obtain ⟨o, fd, ho, hdd, hcl, hgl, hbl, hbd, hsc, hcd, hbind⟩ := hS0.stream.at_.at_
  obtain ⟨o', fd', ho', hdd', hq, hcode⟩ := B.stream
  rw [ho] at ho'; cases ho'
  rw [hdd] at hdd'; cases hdd'
  refine wpAny_call (codeAny_call_function (fd := fd) (body := stB) (by have := r.depth; omega) (stat _ _ ho) hdd (by rw [hsc]; rfl) (by rw [hsc]; rfl) hbd (hcd.keeps stat) ?_)
  have hb1 := hbind [.ref SG] rfl
  refine Eq.mp (congrArg (fun z => wpAny _ _ z _ _ _) hb1.symm) ?_
  rw [hcl, hgl, hbl, hsc, hq, hcode]
  have k5 : stS.kind = .function := rfl
  have lkc : stS.names.lookup (Str.ofString "signs") = some NameKind.cell := by decide +kernel
  have hcells : ∀ k, cellsFrom k stS.names [] = [(Str.ofString "signs", k)] := fun k => rfl
  refine wpAny_pure (wpAny_newFunctionEnv_cells k5 (fun y hy => ?_) fun env henv s₂ hin => ?_)
  · simp at hy; subst hy
    exact .inr ⟨lkc, by rw [hcells]; simp⟩
  have hko : ∀ x, env.kindOf x = stS.names.lookup x := fun x => by rw [henv]; rfl
  have hloc : env.locals = s.heap.objs.size := by rw [henv]; rfl
  have hec : env.cells = [(Str.ofString "signs", s.heap.objs.size + 1)] := by rw [henv]; rfl
  have hkf : env.scope.kind = .function := by rw [henv]; rfl
  have hgl' : env.globals = mainGlobals := by rw [henv]; rfl
  have hecode : env.code = .ref 97 := by rw [henv]; rfl
  have hqual : env.qual ++ Str.ofString "<lambda>" = lamQ := by rw [henv]; show (Str.ofString "_law_stream" ++ Str.ofString ".<locals>.") ++ Str.ofString "<lambda>" = lamQ; decide +kernel
  have hclo : closureFor (lamS lamE) env = pure [(Str.ofString "signs", s.heap.objs.size + 1)] := by rw [henv]; rfl
  obtain ⟨⟨h₂, tk₂, rfl⟩, hns, hkeep, hfresh⟩ := hin.toInCall
  have hcell := hin.cell (Str.ofString "signs") (s.heap.objs.size + 1) (by rw [hec]; simp)
  rw [bindC_of (by rw [hko, lkc]; decide) _ _ (by simp)] at hcell
  have hcell' : h₂.IsCell (s.heap.objs.size + 1) (some (.ref SG)) := by simpa using hcell
  have st2 : ∀ b o, hS.get? b = some o → h₂.get? b = some o := fun b o e => hkeep b o (stat b o e)
  refine ⟨hS0.lim.keeps st2, codeAny_func ?_⟩
  have rm1 : Room (A.deeper env) (n + 7) := r.deeper env
  generalize A.deeper env = A1 at rm1
  have h93' : h₂.get? 93 = some (tabObj #[]) := hkeep _ _ h93
  obtain ⟨mN, hnN, hinit, _⟩ := B.ns
  obtain ⟨mg, hmg, hm87⟩ := B.glb
  have hL2 : env.locals < h₂.objs.size := by obtain ⟨oL, _, _, e, _⟩ := id hns; exact Heap.lt_size e
  -- stream = _netrclex(None)
  refine wpAny_execs_cons (wpAny_Assign_Name (Call_ (Calls.Name_function_global hkf (by rw [hko]; decide +kernel) (Calls.loadGlobal_global (by rw [hgl']; exact hmg.keeps st2) hm87 ?_))) (by rfl))
  refine callWith_cls (h₀ := hS) (N := 86) (mN := mN) ⟨⟨_, _, _, _, _, _, _, _, _, _, _, _, B.cls⟩, hnN⟩ (args_cons (e := argE (asgE (nthS stB 0))) (rest := []) (env := env) (wpAny_pure (args_nil ⟨st2, ?_⟩)) rfl) rfl rfl
  refine wpAny_mono (make_lex (n := n) hS0.lim B (rm1.le (by omega)) st2) (fun v s3 z => ?_) fun _ _ f => f.elim
  obtain ⟨ST, DS, PB, rfl, nST, nDS, nPB, ne1, ne2, ne3, LM, hg3, ho3⟩ := z
  have nolt : ∀ {b : Addr}, h₂.get? b = none → b ≠ env.locals := fun {b} hb q => by obtain ⟨oL, _, _, e, _⟩ := id hns; rw [q, show h₂.get? env.locals = some oL from e] at hb; cases hb
  have nocl : ∀ {b : Addr}, h₂.get? b = none → b ≠ s.heap.objs.size + 1 := fun {b} hb q => by obtain ⟨oL, e, _⟩ := id hcell'; rw [q, e] at hb; cases hb
  have no93 : ∀ {b : Addr}, h₂.get? b = none → b ≠ 93 := fun {b} hb q => by rw [q, h93'] at hb; cases hb
  have k3 : ∀ b o, h₂.get? b = some o → s3.heap.get? b = some o := fun b o e => LM.keep b o (fun q => by rw [q, show h₂.get? ST = none from nST] at e; cases e) (fun q => by rw [q, show h₂.get? DS = none from nDS] at e; cases e) e
  refine wpAny_storeName_local (by rw [hko]; decide +kernel) (hns.keeps k3) (fun h4 hns4 hsb4 => ?_) (by rw [hkf]; rfl)
  have k4 : ∀ b o, b ≠ env.locals → s3.heap.get? b = some o → h4.get? b = some o := fun b o hb e => (hsb4.2 b hb).trans e
  have hSL : hS.get? env.locals = none := by
    cases e : hS.get? env.locals with
    | none => rfl
    | some o => exact absurd (Heap.lt_size (stat _ _ e)) (by rw [hloc]; exact Nat.lt_irrefl _)
  have st4 : ∀ b o, hS.get? b = some o → h4.get? b = some o := fun b o e => k4 b o (fun q => by rw [q, hSL] at e; cases e) (k3 b o (st2 b o e))
  obtain ⟨m, I, _, _, _, _, hwi⟩ := LM.inst
  have Mst : Mk h4 ST DS m h4 := ⟨instFk_at I LM.dict (k4 _ · (nolt nST)) (k4 _ · (nolt nDS)), dict_at (instFk_alive I LM.dict).1 LM.dict (k4 _ · (nolt nST)), fun _ _ _ _ e => e⟩
  have e93 : (93 : Addr) ≠ env.locals := fun q => by rw [q] at h93; exact absurd (Heap.lt_size h93) (by rw [hloc]; exact Nat.lt_irrefl _)
  have h93_4 : h4.get? 93 = some (tabObj #[]) := k4 _ _ e93 (k3 _ _ h93')
  have hcell4 : h4.IsCell (s.heap.objs.size + 1) (some (.ref SG)) := isCell_at hcell' fun o e => k4 _ o (by rw [hloc]; exact Nat.succ_ne_self _) (k3 _ o e)
  obtain ⟨mgb, hmgb, hbu⟩ := B.bu
  -- the lambda
  refine wpAny_execs_cons (plainObj_wpAny_Assign_Attribute (kla_eval (by rfl) (kla_makeFunction (mg := mgb) hclo hgl' (hmgb.keeps st4) hecode (B.code.keeps st4) h93_4 (by trivial) rfl (by decide) (hbu.keeps st4) fun c' ctv h5 tk hx hge hlt hrec htab => ?_)) (by rfl))
  rw [hqual] at hrec ⊢
  have k5' : ∀ b o, b ≠ 93 → h4.get? b = some o → h5.get? b = some o := fun b o hb e => hx b o hb e
  change wpAny (model prog w) A1 _ _ _ { heap := h5.push (kla_obj (Str.ofString "<lambda>") lamQ (lamP lamE) (lamB lamE) (lamS lamE) [(Str.ofString "signs", s.heap.objs.size + 1)] ((mgb (Str.ofString "__name__")).getD Value.none) c' ctv), gens := s3.gens, drawn := s3.drawn, toks := tk, os := s3.os }
  generalize hO : kla_obj (Str.ofString "<lambda>") lamQ (lamP lamE) (lamB lamE) (lamS lamE) [(Str.ofString "signs", s.heap.objs.size + 1)] ((mgb (Str.ofString "__name__")).getD Value.none) c' ctv = fO
  have k6 : ∀ b o, h5.get? b = some o → (h5.push fO).get? b = some o := fun b o e => Heap.get?_push_of_some _ e
  have hFN : (h5.push fO).get? h5.objs.size = some fO := Heap.get?_push_size _ (by rw [← hO]; rfl)
  have lt4 : ∀ {b : Addr} {o : Obj}, b ≠ 93 → h4.get? b = some o → b < h5.objs.size := fun {b o} hb e => Heap.lt_size (k5' b o hb e)
  have alM := instFk_alive Mst.inst Mst.dict
  have hns6 : (h5.push fO).Ns env.locals _ := (hns4.at' (fun o e => k5' _ o e93.symm e)).at' fun o e => k6 _ o e
  have nF : ∀ {b : Addr} {o : Obj}, b ≠ 93 → h4.get? b = some o → b ≠ h5.objs.size := fun {b o} hb e q => absurd (lt4 hb e) (by rw [q]; exact Nat.lt_irrefl _)
  have M6 : Mk (h5.push fO) ST DS m (h5.push fO) := ⟨instFk_at Mst.inst Mst.dict (fun o e => k6 _ o (k5' _ o (no93 nST) e)) (fun o e => k6 _ o (k5' _ o (no93 nDS) e)), dict_at alM.1 Mst.dict (fun o e => k6 _ o (k5' _ o (no93 nST) e)), fun _ _ _ _ e => e⟩
  have st6 : ∀ b o, hS.get? b = some o → (h5.push fO).get? b = some o := fun b o e => k6 b o (k5' b o (fun q => by rw [q, B.hide] at e; cases e) (st4 b o e))
  have hSf : ∀ {b : Addr}, h₂.get? b = none → hS.get? b = none := fun {b} hb => by
    cases e : hS.get? b with
    | none => rfl
    | some o => rw [st2 b o e] at hb; cases hb
  refine wpAny_Name (wpAny_loadName_local (v := .ref ST) hkf (by rw [hko]; decide +kernel) hns6 (by simp) ?_) (by decide +kernel)
  refine M6.set B st6 (hSf nST) (by decide +kernel) lo_read hwi (by decide) fun s7 M7 k7 g7 o7 => ?_
  refine wpAny_execs_cons (wpAny_Return_some (wpAny_Name (wpAny_loadName_local (v := .ref ST) hkf (by rw [hko]; decide +kernel) (hns6.at' fun o e => k7 _ o (nolt nST).symm (nolt nDS).symm e) (by simp) ?_) (by decide +kernel)))
  have kall : ∀ b o, b ≠ 93 → b ≠ env.locals → b ≠ ST → b ≠ DS → h₂.get? b = some o → s7.heap.get? b = some o := fun b o n1 n2 n3 n4 e => k7 b o n3 n4 (k6 b o (k5' b o n1 (k4 b o n2 (k3 b o e))))
  have sfresh : ∀ {b : Addr}, h₂.get? b = none → s.heap.get? b = none := fun {b} hb => by
    cases e : s.heap.get? b with
    | none => rfl
    | some o => have := hkeep b o e; rw [show ({ heap := h₂, gens := s.gens, drawn := s.drawn, toks := tk₂, os := s.os } : Shared).heap.get? b = h₂.get? b from rfl, hb] at this; cases this
  have hsz2 : s.heap.objs.size ≤ h5.objs.size := Nat.le_trans (Nat.le_of_eq hloc.symm) (Nat.le_of_lt (by obtain ⟨oL, _, _, e, _⟩ := id hns4; exact lt4 e93.symm e))
  have ge4 : h4.objs.size ≤ c' := hge
  have aL4 : env.locals < h4.objs.size := by obtain ⟨oL, _, _, e, _⟩ := id hns4; exact Heap.lt_size e
  have hszc : s.heap.objs.size ≤ c' := Nat.le_trans (Nat.le_of_eq hloc.symm) (Nat.le_trans (Nat.le_of_lt aL4) ge4)
  have nFST : ST ≠ h5.objs.size := by obtain ⟨⟨o, e⟩, _⟩ := alM; exact nF (no93 nST) e
  have nFDS : DS ≠ h5.objs.size := by obtain ⟨_, o, e⟩ := alM; exact nF (no93 nDS) e
  have ltc : ∀ {b : Addr} {o : Obj}, h4.get? b = some o → b ≠ c' := fun {b o} e q => absurd (Heap.lt_size e) (Nat.not_lt.mpr (q ▸ ge4))
  have nCST : ST ≠ c' := by obtain ⟨⟨o, e⟩, _⟩ := alM; exact ltc e
  have nCDS : DS ≠ c' := by obtain ⟨_, o, e⟩ := alM; exact ltc e
  have nCL93 : s.heap.objs.size + 1 ≠ 93 := fun q => by have := Heap.lt_size h93; exact absurd this (Nat.not_lt.mpr (Nat.le_trans (Nat.le_succ _) (Nat.le_of_eq q)))
  refine ⟨ST, DS, h5.objs.size, s.heap.objs.size + 1, c', rfl, ⟨⟨_, M7.inst, by simp⟩, M7.dict, ⟨(mgb (Str.ofString "__name__")).getD Value.none, ctv, ?_⟩, ?_, ?_, ?_, ?_, ?_, ?_⟩, g7.trans hg3, o7.trans ho3⟩
  · rw [hO]; exact k7 _ _ nFST.symm nFDS.symm hFN
  · exact codeRec_at hrec fun o e => k7 _ o nCST.symm nCDS.symm (k6 _ o e)
  · exact isCell_at hcell4 fun o e => k7 _ o (nocl nST).symm (nocl nDS).symm (k6 _ o (k5' _ o nCL93 e))
  · exact ⟨_, k7 _ _ (no93 nST).symm (no93 nDS).symm (k6 _ _ htab)⟩
  · exact fun b o n1 e => kall b o n1 (fun q => by rw [q, hloc] at e; exact absurd (Heap.lt_size e) (Nat.lt_irrefl _)) (fun q => by rw [q, sfresh nST] at e; cases e) (fun q => by rw [q, sfresh nDS] at e; cases e) (hkeep b o e)
  · intro b hb
    simp only [List.mem_cons, List.not_mem_nil, or_false] at hb
    rcases hb with rfl | rfl | rfl | rfl | rfl
    · exact sfresh nST
    · exact sfresh nDS
    · exact get_none hsz2
    · exact get_none (Nat.le_succ _)
    · exact get_none hszc
  · obtain ⟨oc, hoc, _⟩ := id hcell4
    simp only [List.nodup_cons, List.mem_cons, List.not_mem_nil, or_false, not_or, List.nodup_nil, and_true, not_false_eq_true]
    exact ⟨⟨ne1, nFST, nocl nST, nCST⟩, ⟨nFDS, nocl nDS, nCDS⟩, ⟨(nF nCL93 hoc).symm, (Nat.ne_of_lt hlt).symm⟩, ltc hoc⟩
end
end
section
/-! the world of the law ahead of the lexer: the table of _law_stream -/
noncomputable def tabW (hS : Heap) (hh : hS.get? 93 = none) : Wd hS where
  Mut := fun b => b = 93
  foot := fun b => b = 93
  σ := Bool
  holds := fun st s => ∃ ps, s.heap.get? 93 = some (tabObj ps) ∧ (st = false → ps = #[])
  mutF := fun _ m => m
  apart := fun b o e m => by rw [m, hh] at e; cases e
  alive := fun h b m => by obtain ⟨o, e, _⟩ := h; exact ⟨_, m ▸ e⟩
  stable := fun h k1 _ => let ⟨o, e, q⟩ := h; ⟨o, k1 93 _ rfl e, q⟩
section
variable {hS : Heap} {prog : Program} {w : World} {n : Nat}
variable {hh : hS.get? 93 = none} {SG : Addr} {h1 : hS.get? SG = none} {h2 : ¬ (tabW hS hh).foot SG}
theorem EX.enterLex {y : Str} {e : Expr} {p pos : Pos} {rest : List Stmt} {sc : Scope} {vars : List Str} {ρ : List (Option D)} {d : D} {sg : List Nat} {x' : Lx} (ρ' : Addr → List (Option D))
    (h : ∀ (A : Around) (env : Env) (U : Addr → Prop) (s : Shared), Room A n → Fits sc env → Stand ((tabW hS hh).own SG h1 h2) U env vars ρ (false, dC sg) s →
      wpAny (model prog w) A (eval e env) (fun v s' => Ext ((tabW hS hh).own SG h1 h2).Mut s s' ∧ ∃ a : LA, a.SG = SG ∧ v = .ref a.LX ∧ LexAt a ⟨1, [], sg⟩ s' ∧ a.all.Nodup ∧ ∀ b ∈ a.all, b ≠ 93 → b ≠ SG → s.heap.get? b = none) (fun _ _ => False) s)
    (hp : ∀ L, Put vars ρ y (.raw (.ref L)) (ρ' L))
    (hr : ∀ (a : LA) (ok : LA.Ok hS a), a.SG = SG → EX prog w n (lexW hS a ok) sc vars (ρ' a.LX) ⟨1, [], sg⟩ rest (.ret d x')) (hf : isFlat d = true) (nd : vars.Nodup := by decide +kernel)
    (hsw : ∀ env, Fits sc env → swapsWith e (some (.Name y p)) pos.line env = pure false := by intro _ _; rfl) : EX prog w n ((tabW hS hh).own SG h1 h2) sc vars ρ (false, dC sg) (.Assign [.Name y p] e pos :: rest) (.ret d (true, dC x'.sg)) := fun A env U s r f I0 hs => by
  refine wpAny_execs_cons (wpAny_Assign_Name (wpAny_mono (h A env U s r f I0) (fun v s1 z => ?_) fun _ _ x => x) (hsw env f))
  obtain ⟨x1, a, hSG, rfl, L1, nd1, fresh⟩ := z
  have notS : ∀ b, s.heap.get? b = none → hS.get? b = none := fun b hb => by
    cases e : hS.get? b with
    | none => rfl
    | some o => rw [I0.static b o e] at hb; cases hb
  have ok : LA.Ok hS a := ⟨nd1, fun b hb => by
    by_cases q1 : b = 93
    · rw [q1]; exact hh
    · by_cases q2 : b = SG
      · rw [q2]; exact h1
      · exact notS b (fresh b hb q1 q2)⟩
  let N : Addr → Prop := fun b => b ∈ a.all ∧ b ≠ 93 ∧ b ≠ SG
  have w1 : ((tabW hS hh).own SG h1 h2).holds (true, dC sg) s1 := ⟨by obtain ⟨o, e⟩ := L1.tab; exact ⟨o, e, fun q => by cases q⟩, hSG ▸ L1.sg⟩
  have I1 := I0.grow x1 w1 N (fun b m => fresh b m.1 m.2.1 m.2.2) (fun b m => L1.alive b m.1)
  obtain ⟨i, hx, hρ'⟩ := (hp a.LX).idx
  have hm := List.mem_of_getElem? hx
  have hLn : ∀ b, s.heap.get? b = none → env.locals ≠ b := fun b hb q => by obtain ⟨_, o, _, _, e', _⟩ := I0.ns; rw [q, hb] at e'; cases e'
  have hCn : ∀ b, s.heap.get? b = none → ∀ z c, env.cells.lookup z = some c → c ≠ b := fun b hb z c hc q => by obtain ⟨_, o, e', _⟩ := I0.cellv z c hc; rw [q, hb] at e'; cases e'
  refine wpAny_mono (I1.store f nd hx (hs y hm) (.raw (.ref a.LX))) (fun _ s2 z => ?_) fun _ _ x => x
  obtain ⟨x2, I2⟩ := z
  rw [← hρ'] at I2
  have notOwn : ∀ b ∈ a.all, ¬ Own env [y] b := fun b hb o => by
    by_cases q1 : b = 93
    · rcases o with o | ⟨z, _, hc⟩
      · exact I0.locals (.inl (o ▸ q1))
      · exact I0.cells z b hc (.inl q1)
    · by_cases q2 : b = SG
      · rcases o with o | ⟨z, _, hc⟩
        · exact I0.locals (.inr (o ▸ q2))
        · exact I0.cells z b hc (.inr q2)
      · have hb' := fresh b hb q1 q2
        rcases o with o | ⟨z, _, hc⟩
        · exact hLn b hb' o.symm
        · exact hCn b hb' z b hc rfl
  have L2 : LexAt a ⟨1, [], sg⟩ s2 := L1.at fun b o hb e => x2.keep b o (notOwn b hb) e
  have notL : env.locals ∉ a.all := fun hb => notOwn _ hb (.inl rfl)
  have notC : ∀ z c, env.cells.lookup z = some c → c ∉ a.all := fun z c hc hb => by
    by_cases q1 : c = 93
    · exact I0.cells z c hc (.inl q1)
    · by_cases q2 : c = SG
      · exact I0.cells z c hc (.inr q2)
      · exact hCn c (fresh c hb q1 q2) z c hc rfl
  have hE := hr a ok hSG
  have I3 : Stand (lexW hS a ok) (fun b => U b ∨ N b) env vars (ρ' a.LX) ⟨1, [], sg⟩ s2 :=
    ⟨I2.static, fun b m => by
      have hb : b ∈ a.all := (lexW hS a ok).mutF b m
      by_cases q1 : b = 93
      · exact .inl (I0.mutU b (.inl q1))
      · by_cases q2 : b = SG
        · exact .inl (I0.mutU b (.inr q2))
        · exact .inr ⟨hb, q1, q2⟩, I2.low, L2, I2.ns, notL, I2.localsS, notC, I2.cellsS, I2.cellv, I2.inj, I2.sto⟩
  refine wpAny_mono (hE A env _ s2 r f I3 hs) (fun fl s3 z => ?_) fun _ _ x => x
  obtain ⟨x3, v', rfl, hh', hr'⟩ := z
  refine ⟨⟨fun b ob nb e => ?_, x3.os.trans (x2.os.trans x1.os), Nat.le_trans x1.gsize (Nat.le_trans x2.gsize x3.gsize), fun g hg => (x3.gens g (Nat.lt_of_lt_of_le hg (Nat.le_trans x1.gsize x2.gsize))).trans ((x2.gens g (Nat.lt_of_lt_of_le hg x1.gsize)).trans (x1.gens g hg)), fun q => x3.bare (x2.bare (x1.bare q))⟩, v', rfl, ⟨by obtain ⟨o, e⟩ := LexAt.tab hh'; exact ⟨o, e, fun q => by cases q⟩, hSG ▸ LexAt.sg hh'⟩, (hr'.toFlat (h' := s3.heap) hf).flat⟩
  have n1 : b ≠ 93 := fun q => nb (.inl (.inl q))
  have n2 : b ≠ SG := fun q => nb (.inl (.inr q))
  have nA : b ∉ a.all := fun hb => by rw [fresh b hb n1 n2] at e; cases e
  refine x3.keep b ob (fun m => ?_) (x2.keep b ob (fun m => nb (.inr (Own.mono (by simpa using hm) b m))) (x1.keep b ob (fun m => nb (.inl m)) e))
  rcases m with m | m
  · exact nA ((lexW hS a ok).mutF b m)
  · exact nb (.inr m)
noncomputable abbrev lwS : Scope := fdScope (top 20)
noncomputable abbrev lwB : List Stmt := fdBody (top 20)
noncomputable abbrev lexE : Expr := asgE (nthS lwB 9)
set_option maxHeartbeats 1000000 in
theorem ev_lexer (hS0 : Base hS) (B : LexBase hS) {vars : List Str} {ρ : List (Option D)} {sg : List Nat} (hsig : At vars ρ "signs" (.raw (.ref SG))) {A : Around} {env : Env} {U : Addr → Prop} {s : Shared} (r : Room A (n + 9)) (ft : Fits lwS env)
    (I : Stand ((tabW hS hh).own SG h1 h2) U env vars ρ (false, dC sg) s) :
    wpAny (model prog w) A (eval lexE env) (fun v s' => Ext ((tabW hS hh).own SG h1 h2).Mut s s' ∧ ∃ a : LA, a.SG = SG ∧ v = .ref a.LX ∧ LexAt a ⟨1, [], sg⟩ s' ∧ a.all.Nodup ∧ ∀ b ∈ a.all, b ≠ 93 → b ≠ SG → s.heap.get? b = none) (fun _ _ => False) s := by
  have hn : EV prog w (n + 9) ((tabW hS hh).own SG h1 h2) lwS vars ρ (false, dC sg) (.Name "_netrclex" (exPos (callF lexE))) (.raw (.ref 87)) (false, dC sg) := .glob B.glb (by decide +kernel)
  refine Call_ (wpAny_mono (hn A env U s r ft I) (fun v s1 q1 => ?_) fun _ _ x => x)
  have e := q1.2.2.of_raw
  subst e
  have I1 := I.step q1.1 q1.2.1
  obtain ⟨mN, hnN, hinit, _⟩ := B.ns
  refine callWith_cls (h₀ := hS) (N := 86) (mN := mN) ⟨⟨_, _, _, _, _, _, _, _, _, _, _, _, B.cls⟩, hnN⟩ (args_cons (e := argE lexE) (rest := []) (env := env) ?_ rfl) rfl rfl
  have hn2 : EV prog w (n + 9) ((tabW hS hh).own SG h1 h2) lwS vars ρ (false, dC sg) (.Name "_law_stream" (exPos (callF (argE lexE)))) (.raw (.ref 98)) (false, dC sg) := .glob hS0.stream.glb (by decide +kernel)
  refine Call_ (wpAny_mono (hn2 A env U s1 r ft I1) (fun v s2 q2 => ?_) fun _ _ x => x)
  have e := q2.2.2.of_raw
  subst e
  have I2 := I1.step q2.1 q2.2.1
  refine callWith_of hS0.stream.at_.callee (.cons (aN hsig ⟨by decide +kernel⟩) .nil fun _ => rfl) r ft I2 fun vs s3 x3 I3 r3 => ?_
  obtain ⟨v, rfl, rv⟩ := r3.one
  have e := rv.of_raw
  subst e
  obtain ⟨⟨o93, h93, hk⟩, hown⟩ := I3.hold
  have hk' := hk rfl
  subst hk'
  have x03 : Ext ((tabW hS hh).own SG h1 h2).Mut s s3 := (q1.1.trans q2.1).trans x3
  refine wpAny_mono (stream_call (n := n + 1) hS0 B (A := A) r I3.static h93) (fun v s4 z => ?_) fun _ _ f => f.elim
  obtain ⟨ST, DS, FN, CL, CD, rfl, SM, g4, o4⟩ := z
  have hSG93 : SG ≠ 93 := fun q => h2 q
  have st4 : ∀ b o, hS.get? b = some o → s4.heap.get? b = some o := fun b o e => SM.keep b o (fun q => by rw [q, hh] at e; cases e) (I3.static b o e)
  refine args_nil ⟨st4, ?_⟩
  refine wpAny_mono (make_lex (n := n + 4) hS0.lim B (A := A) r st4) (fun v s5 z => ?_) fun _ _ f => f.elim
  obtain ⟨LX, DX, PB, rfl, nLX, nDX, nPB, ne1, ne2, ne3, LM, g5, o5⟩ := z
  obtain ⟨mS, IS, hread⟩ := SM.inst
  have alS := instFk_alive IS SM.dict
  obtain ⟨pm, ctv, hFN⟩ := SM.fn
  obtain ⟨oc, hoc, hoc2⟩ := SM.cell
  obtain ⟨cd', ocd, vcd, tcd, ecd, hocd, hcd2⟩ := SM.code
  cases ecd
  obtain ⟨o93', h93'⟩ := SM.tab
  have own4 : OwnList s4.heap SG (dC sg) := hown.at fun o e => SM.keep _ o hSG93 e
  obtain ⟨oSG, hoSG⟩ := own4.alive
  have ne : ∀ {b c : Addr} {o : Obj}, s4.heap.get? b = some o → s4.heap.get? c = none → b ≠ c := fun {b c o} e e' q => by rw [q, e'] at e; cases e
  have k5 : ∀ b o, s4.heap.get? b = some o → s5.heap.get? b = some o := fun b o e => LM.keep b o (ne e nLX) (ne e nDX) e
  obtain ⟨mL, IL, hline, hins, hws, hpb, honly⟩ := LM.inst
  let a : LA := ⟨LX, DX, PB, ST, DS, FN, CL, SG, CD⟩
  have s3lt : ∀ {b : Addr}, s4.heap.get? b = none → b ≠ 93 → s3.heap.get? b = none := fun {b} e n93 => by
    cases q : s3.heap.get? b with
    | none => rfl
    | some o => rw [SM.keep b o n93 q] at e; cases e
  have sn : ∀ {b : Addr}, s3.heap.get? b = none → b ≠ SG → b ≠ 93 → s.heap.get? b = none := fun {b} e nS n93 => by
    cases q : s.heap.get? b with
    | none => rfl
    | some o => rw [x03.keep b o (fun m => m.elim n93 nS) q] at e; cases e
  have n93 : ∀ {b : Addr}, s4.heap.get? b = none → b ≠ 93 := fun e q => by rw [q, h93'] at e; cases e
  have nSG : ∀ {b : Addr}, s4.heap.get? b = none → b ≠ SG := fun e q => by rw [q, hoSG] at e; cases e
  have f93 : ∀ {b : Addr}, s3.heap.get? b = none → b ≠ 93 := fun e q => by rw [q, h93] at e; cases e
  obtain ⟨oS3, hoS3⟩ := hown.alive
  have fSG : ∀ {b : Addr}, s3.heap.get? b = none → b ≠ SG := fun e q => by rw [q, hoS3] at e; cases e
  have fr := SM.fresh
  have nds := SM.nd
  simp only [List.nodup_cons, List.mem_cons, List.not_mem_nil, or_false, not_or, List.nodup_nil, and_true, not_false_eq_true] at nds
  obtain ⟨⟨a1, a2, a3, a4⟩, ⟨b1, b2, b3⟩, ⟨c1, c2⟩, d1⟩ := nds
  have fST := fr ST (by simp)
  have fDS := fr DS (by simp)
  have fFN := fr FN (by simp)
  have fCL := fr CL (by simp)
  have fCD := fr CD (by simp)
  obtain ⟨oST, hoST⟩ := alS.1
  obtain ⟨oDS, hoDS⟩ := alS.2
  refine ⟨⟨fun b o nb e => ?_, ?_, ?_, ?_, ?_⟩, a, rfl, rfl, ⟨⟨_, k5 _ _ h93'⟩, ⟨mL, IL, ⟨hline, hins, hws, hpb, honly⟩⟩, LM.dict, ⟨mS, instFk_at IS SM.dict (k5 _) (k5 _), hread⟩, dict_at alS.1 SM.dict (k5 _), ⟨pm, ctv, k5 _ _ hFN⟩, codeRec_at SM.code (k5 _), isCell_at SM.cell (k5 _), own4.at (k5 _), ⟨[], LM.pb, .nil⟩⟩, ?_, ?_⟩
  · exact k5 b o (SM.keep b o (fun q => nb (.inl q)) (x03.keep b o nb e))
  · exact o5.trans (o4.trans x03.os)
  · rw [g5, g4]; exact x03.gsize
  · intro g hg; rw [g5, g4]; exact x03.gens g hg
  · intro q; rw [g5, g4]; exact x03.bare q
  · show [93, LX, DX, PB, ST, DS, FN, CL, SG, CD].Nodup
    simp only [List.nodup_cons, List.mem_cons, List.not_mem_nil, or_false, not_or, List.nodup_nil, and_true, not_false_eq_true]
    exact ⟨⟨(n93 nLX).symm, (n93 nDX).symm, (n93 nPB).symm, (f93 fST).symm, (f93 fDS).symm, (f93 fFN).symm, (f93 fCL).symm, hSG93.symm, (f93 fCD).symm⟩,
      ⟨ne1, ne2, (ne hoST nLX).symm, (ne hoDS nLX).symm, (ne hFN nLX).symm, (ne hoc nLX).symm, nSG nLX, (ne hocd nLX).symm⟩,
      ⟨ne3, (ne hoST nDX).symm, (ne hoDS nDX).symm, (ne hFN nDX).symm, (ne hoc nDX).symm, nSG nDX, (ne hocd nDX).symm⟩,
      ⟨(ne hoST nPB).symm, (ne hoDS nPB).symm, (ne hFN nPB).symm, (ne hoc nPB).symm, nSG nPB, (ne hocd nPB).symm⟩,
      ⟨a1, a2, a3, fSG fST, a4⟩, ⟨b1, b2, fSG fDS, b3⟩, ⟨c1, fSG fFN, c2⟩, ⟨fSG fCL, d1⟩, (fSG fCD).symm⟩
  · intro b hb m93 mSG
    simp only [LA.all, a, List.mem_cons, List.not_mem_nil, or_false] at hb
    rcases hb with rfl | rfl | rfl | rfl | rfl | rfl | rfl | rfl | rfl | rfl
    · exact absurd rfl m93
    · exact sn (s3lt nLX m93) mSG m93
    · exact sn (s3lt nDX m93) mSG m93
    · exact sn (s3lt nPB m93) mSG m93
    · exact sn fST mSG m93
    · exact sn fDS mSG m93
    · exact sn fFN mSG m93
    · exact sn fCL mSG m93
    · exact absurd rfl mSG
    · exact sn fCD mSG m93
end
end
section
/-! the plain law -/
noncomputable def comingP (places : List Int) : List Int := places.map fun p => if p = 1 ∨ p = 3 then 1 else 0
noncomputable def countersP (places : List Int) : List Int := places.map fun p => if p = 2 ∨ p = 3 then 1 else 0
noncomputable def masksF : List (List Int) := (zs 0 32).map fun m => (zs 0 5).map fun k => m / 2 ^ k.toNat % 2
noncomputable def sumI (l : List Int) : Int := l.foldl (· + ·) 0
noncomputable def waysF (coming : List Int) : List (List Int) := masksF.filter fun way => sumI way == sumI coming
noncomputable def x3 : Lx := ⟨3, [], []⟩
noncomputable def sameLx (x : Lx) : Bool := x.line == 3 && x.pb.isEmpty && x.sg.isEmpty
noncomputable def upsK (ring : List Int) : List Int := (zs 0 5).filter fun k => decide (ring.getD k.toNat 0 < ring.getD ((k + 1) % 5).toNat 0)
noncomputable def downsK (ring : List Int) : List Int := (zs 0 5).filter fun k => decide (ring.getD k.toNat 0 > ring.getD ((k + 1) % 5).toNat 0)
noncomputable def ringOk (ring : List Int) : Bool := ring.length == 5 && ring.all (fun x => decide (0 ≤ x) && decide (x ≤ 2)) && ring.any (· == 1)
noncomputable def lawOk (coming counters : List Int) : Bool :=
  let ring := lineF coming counters x3
  let ways := waysF coming
  let taken := ways.map fun way => takesF ring way
  sameLx (lnAll coming counters x3).1 && ringOk ring &&
  ways.all (fun way => sameLx (lnAll way counters x3).1 && takesOk ring way && (takesF ring way == (lineF way counters x3 == ring))) &&
  (upsK ring).all (fun k => ringOk (changedF ring k) && ways.all fun way => takesOk (changedF ring k) way) &&
  (sumI ((upsK ring).map fun k => ((ways.map fun way => takesF (changedF ring k) way).count true : Int)) == (downsK ring).length * (taken.count true : Int))
noncomputable def okPlaces (p : List Int) : Bool := lawOk (comingP (p ++ [2])) (countersP (p ++ [2]))
end
section
/-! judgements in a box: the elaborator does not look into them -/
structure Bx (P : Prop) : Prop where
  h : P
section
variable {hS : Heap} {prog : Program} {w : World} {n : Nat}
variable {W : Wd hS} {sc : Scope} {vars : List Str} {ρ ρ' : List (Option D)} {st st₁ st₂ st₃ : W.σ}
theorem bL {es : List Expr} {ds : List D} {pos : Pos} (q : EVs prog w n W sc vars ρ st es ds st₁) (hsz : Dk (es.length ≤ 1000000)) : Bx (EV prog w n W sc vars ρ st (.List es pos) (.list ds) st₁) := ⟨aL q hsz⟩
theorem bT {es : List Expr} {ds : List D} {k : Nat} {pos : Pos} (q : EVs prog w n W sc vars ρ st es ds st₁) (hsz : Dk (es.length ≤ 1000000)) : Bx (EV prog w n W sc vars ρ st (.Tuple es k pos) (.tuple ds) st₁) := ⟨aT q hsz⟩
theorem bS {e : Expr} {es : List Expr} {d : D} {ds : List D} (h : Bx (EV prog w n W sc vars ρ st e d st₁)) (q : EVs prog w n W sc vars ρ st₁ es ds st₂) (he : Tr (∀ env, starEach (e :: es) env = (false, eval e env) :: starEach es env)) : EVs prog w n W sc vars ρ st (e :: es) (d :: ds) st₂ := aS h.h q he
theorem bItem {value slice : Expr} {pos : Pos} {d1 d2 d : D} (h1 : Bx (EV prog w n W sc vars ρ st value d1 st₁)) (h2 : Bx (EV prog w n W sc vars ρ st₁ slice d2 st₂)) (ho : Bx (Op hS prog w n (Sub value slice) [d1, d2] d)) : Bx (EV prog w n W sc vars ρ st (.Subscript value slice pos) d st₂) := ⟨aItem h1.h h2.h ho.h⟩
theorem bBin {l r : Expr} {op : Operator} {pos : Pos} {d1 d2 d : D} (h1 : Bx (EV prog w n W sc vars ρ st l d1 st₁)) (h2 : Bx (EV prog w n W sc vars ρ st₁ r d2 st₂)) (ho : Bx (Op hS prog w n (Bin op) [d1, d2] d)) : Bx (EV prog w n W sc vars ρ st (.BinOp l op r pos) d st₂) := ⟨aBin h1.h h2.h ho.h⟩
theorem bI {i : Int} {k : Nat} {pos : Pos} : Bx (EV prog w n W sc vars ρ st (.Constant (.int i) k pos) (.int i) st) := ⟨EV.int i⟩
theorem bN {x : Str} {pos : Pos} {d : D} (h : At vars ρ x d) (hb : Dk ((x == ("__debug__" : Str)) = false)) : Bx (EV prog w n W sc vars ρ st (.Name x pos) d st) := ⟨aN h hb⟩
theorem bLit {value slice : Expr} {ds : List D} {k : Int} {d : D} (h : 0 ≤ k ∧ k < 2 ^ 63 ∧ ds[k.toNat]? = some d) (hs : Tr (∀ o i, subscripted slice false o i = operate [o, i] (getItem o i))) : Bx (Op hS prog w n (Sub value slice) [.list ds, .int k] d) := ⟨oLitem h hs⟩
theorem EV.mapIB {α : Type} {elt iter : Expr} {scope : Scope} {pos : Pos} {x : Str} {p : Pos} {capd : List D} {capr : List (Option D)} (capn : List Str) (xs : List α) (g : α → D) (f : α → Int)
    (hsrc : EVit prog w n W sc vars ρ st iter (xs.map g) st) (hc : Caps vars ρ capn capd capr)
    (helt : ∀ a ∈ xs, Bx (EV prog w n W (relabelS scope sc) (x :: capn) (some (g a) :: capr) st elt (.int (f a)) st)) (hsz : xs.length ≤ 1000000) (hok : scopeOk scope sc [x] capn = true := by decide +kernel) (nd : (x :: capn).Nodup := by decide +kernel)
    (hfs : ∀ env x, foldedSetIterable iter env x = pure x := by intro _ _; rfl) : EV prog w n W sc vars ρ st (.ListComp elt [⟨.Name x p, iter, [], 0⟩] scope pos) (dI (xs.map f)) st :=
  EV.mapI capn xs g f hsrc hc (fun a ha => (helt a ha).h) hsz hok nd hfs
theorem EV.mapB {α : Type} {elt iter : Expr} {scope : Scope} {pos : Pos} {x : Str} {p : Pos} {capd : List D} {capr : List (Option D)} (capn : List Str) (xs : List α) (g f : α → D)
    (hsrc : EVit prog w n W sc vars ρ st iter (xs.map g) st) (hc : Caps vars ρ capn capd capr)
    (helt : ∀ a ∈ xs, Bx (EV prog w n W (relabelS scope sc) (x :: capn) (some (g a) :: capr) st elt (f a) st)) (hsz : xs.length ≤ 1000000) (hok : scopeOk scope sc [x] capn = true := by decide +kernel) (nd : (x :: capn).Nodup := by decide +kernel)
    (hfs : ∀ env x, foldedSetIterable iter env x = pure x := by intro _ _; rfl) : EV prog w n W sc vars ρ st (.ListComp elt [⟨.Name x p, iter, [], 0⟩] scope pos) (.list (xs.map f)) st :=
  EV.map capn xs g f hsrc hc (fun a ha => (helt a ha).h) hsz hok nd hfs
end
end
section
noncomputable def told3 (w : List Nat) : Bool := match w with | [a, b, c] => toldOk a b c | _ => false
noncomputable def toldW (w : List Nat) : List Int := match w with | [a, b, c] => toldF a b c | _ => []
noncomputable def wOk (h share top : Int) : Bool := told3 (wordF h share top) && (toldW (wordF h share top) == [if share > 0 then h % 48 * 1000 else 0, share, top * 1000])
noncomputable def pOk (h share top : Int) : Bool := paintOk (h * 1000) share (top * 1000) && (paintF (h * 1000) share (top * 1000) == wordF h share top)
noncomputable def brights : List (Int × Int) := [(500, 16), (1000, 8), (500, 32), (1000, 24)]
noncomputable def greys : List (Int × Int) := [(0, 16), (0, 0), (0, 32), (0, 24)]
theorem tg : ∀ c ∈ greys, wOk 0 c.1 c.2 = true ∧ pOk 0 c.1 c.2 = true := by decide +kernel
theorem tb0 : ∀ h ∈ zs 0 12, ∀ c ∈ brights, wOk h c.1 c.2 = true := by decide +kernel
theorem tp0 : ∀ h ∈ zs 0 12, ∀ c ∈ brights, pOk h c.1 c.2 = true := by decide +kernel
end
section
noncomputable def everyL (l : List Int) (k c : Int) : List Int := (sliceRange (sliceBounds (some k) none (some c) l.length).1 (sliceBounds (some k) none (some c) l.length).2.1 (sliceBounds (some k) none (some c) l.length).2.2).filterMap (l[·]?)
theorem everyD_ints (l : List Int) (k c : Int) : everyD (l.map D.int) k c = (everyL l k c).map D.int := by
  unfold everyD everyL
  rw [List.length_map]
  induction (sliceRange (sliceBounds (some k) none (some c) l.length).1 (sliceBounds (some k) none (some c) l.length).2.1 (sliceBounds (some k) none (some c) l.length).2.2) with
  | nil => rfl
  | cons i r ih =>
    rw [List.filterMap_cons, List.filterMap_cons, List.getElem?_map]
    cases l[i]? with
    | none => exact ih
    | some x => simp only [Option.map_some, List.map_cons]; rw [ih]
theorem every_len : ∀ m ∈ List.range 64, ∀ k ∈ ([0, 1, 2] : List Int), (sliceRange (sliceBounds (some k) none (some 3) m).1 (sliceBounds (some k) none (some 3) m).2.1 (sliceBounds (some k) none (some 3) m).2.2).length ≤ 1000 := by decide +kernel
noncomputable def startsL : List Int := [768265, 617022, 1939659]
noncomputable def heapF (script : List Int) (k : Int) : Int := startsL.getD k.toNat 0 + ((everyL script k 3).map fun x => x % 10 ^ 12).sum
noncomputable def heapsL (script : List Int) : List Int := (zs 0 3).map (heapF script)
noncomputable def looksF (h1 : Int) : List Int := (zs 0 5).map fun k => h1 / 48 / 2 ^ k.toNat % 2
noncomputable def huesF (h1 h2 : Int) : List Int := (zs 0 5).map fun k => h1 % 48 + h2 / 24 ^ k.toNat % 24
noncomputable def topF (p l : Int) : Int := (([[16, 0], [32, 24], [16, 8], [32, 24]] : List (List Int)).getD p.toNat []).getD l.toNat 0
noncomputable def topsF (places looks : List Int) : List Int := (zs 0 5).map fun k => topF (places.getD k.toNat 0) (looks.getD k.toNat 0)
noncomputable def sharesF (places looks : List Int) : List Int := (zs 0 5).map fun k => if places.getD k.toNat 0 > 1 then 500 + 500 * looks.getD k.toNat 0 else 0
noncomputable def wordsF (hues shares tops : List Int) : List (List Nat) := (zs 0 5).map fun k => wordF (hues.getD k.toNat 0) (shares.getD k.toNat 0) (tops.getD k.toNat 0)
noncomputable abbrev lwV : List Str := ["script", "starts", "heaps", "places", "looks", "hues", "tops", "shares", "words", "signs", "lexer", "row", "told", "coming", "counters", "ring", "after", "led", "masks", "ways", "taken", "ups", "downs"]
theorem mem_placesF {h x : Int} (hx : x ∈ placesF h) : 0 ≤ x ∧ x ≤ 3 := by
  unfold placesF at hx
  rw [List.mem_append] at hx
  rcases hx with hx | hx
  · split at hx
    · obtain ⟨y, hy, rfl⟩ := List.mem_map.mp hx
      have := placesA_mem hy
      unfold swapP
      split
      · omega
      · split <;> omega
    · have := placesA_mem hx; omega
  · simp at hx; omega
theorem len_placesF (h : Int) : (placesF h).length = 5 := by
  unfold placesF
  split <;> simp [placesA, zs]
theorem mem_looksF {h x : Int} (hx : x ∈ looksF h) : 0 ≤ x ∧ x ≤ 1 := by
  obtain ⟨k, _, rfl⟩ := List.mem_map.mp hx
  omega
theorem mem_huesF {h1 h2 x : Int} (hx : x ∈ huesF h1 h2) : 0 ≤ x ∧ x ≤ 70 := by
  obtain ⟨k, _, rfl⟩ := List.mem_map.mp hx
  omega
theorem topF_range {p l : Int} (hp : 0 ≤ p ∧ p ≤ 3) (hl : 0 ≤ l ∧ l ≤ 1) : 0 ≤ topF p l ∧ topF p l ≤ 32 := by
  have h1 : p = 0 ∨ p = 1 ∨ p = 2 ∨ p = 3 := by omega
  have h2 : l = 0 ∨ l = 1 := by omega
  rcases h1 with rfl | rfl | rfl | rfl <;> rcases h2 with rfl | rfl <;> decide
section
variable {hS : Heap} {prog : Program} {w : World} {n : Nat} {W : Wd hS} {st : W.σ}
noncomputable abbrev lwA (script places looks hues tops shares : List Int) (words : List (List Nat)) : List (Option D) := [some (dI script), some (.tuple [.int 768265, .int 617022, .int 1939659]), some (dI (heapsL script)), some (dI places), some (dI looks), some (dI hues), some (dI tops), some (dI shares), some (dS words), none, none, none, none, none, none, none, none, none, none, none, none, none, none]
set_option maxHeartbeats 4000000 in
theorem law_A {script : List Int} {o : Out W.σ} (B : Base hS) (hlen : script.length ≤ 63)
    (hr : ∀ h0 h1 h2, heapsL script = [h0, h1, h2] → EX prog w (n + 5) W lwS lwV (lwA script (placesF h0) (looksF h1) (huesF h1 h2) (topsF (placesF h0) (looksF h1)) (sharesF (placesF h0) (looksF h1)) (wordsF (huesF h1 h2) (sharesF (placesF h0) (looksF h1)) (topsF (placesF h0) (looksF h1)))) st (lwB.drop 8) o) :
    EX prog w (n + 5) W lwS lwV [some (dI script), none, none, none, none, none, none, none, none, none, none, none, none, none, none, none, none, none, none, none, none, none, none] st lwB o := by
  have g1 := B.range; have g2 := B.sum
  refine aSet (d := .tuple [.int 768265, .int 617022, .int 1939659]) (st₁ := st) (aT (aS (EV.int _) (aS (EV.int _) (aS (EV.int _) .nil ⟨fun _ => rfl⟩) ⟨fun _ => rfl⟩) ⟨fun _ => rfl⟩) ⟨by decide +kernel⟩) (by walk_at "go") ?_ ⟨by decide +kernel⟩ ⟨fun _ _ => rfl⟩
  refine aSetC (d := dI (heapsL script)) (st₁ := st) ?hHeaps (by walk_at "go") ?_
  case hHeaps =>
    refine EV.mapI ["script", "starts"] (zs 0 3) D.int (heapF script) (by walk_at "go"; decide) (.cons (by walk_at "go") (.cons (by walk_at "go") .nil)) ?hEl (by decide)
    case hEl =>
      intro k hk
      have hk3 : k = 0 ∨ k = 1 ∨ k = 2 := by obtain ⟨i, hi, rfl⟩ := mem_zs hk; omega
      refine aBin (st₁ := st) (d1 := .int (startsL.getD k.toNat 0)) (d2 := .int ((everyL script k 3).map fun x => x % 10 ^ 12).sum) ?hL ?hR op_add
      case hL =>
        refine aItem (st₁ := st) (aN (by walk_at "go") ⟨by decide +kernel⟩) (aN (by walk_at "go") ⟨by decide +kernel⟩) (oTitem ?_ ⟨by intro _ _; rfl⟩)
        rcases hk3 with rfl | rfl | rfl <;> exact ⟨by decide, by decide, rfl⟩
      case hR =>
        refine EV.call (aB B.sum ⟨by decide +kernel⟩) (.builtin _) (aS (ds := []) (st₁ := st) (d := dI ((everyL script k 3).map fun x => x % 10 ^ 12)) ?hC .nil ⟨fun _ => rfl⟩) op_sum
        case hC =>
          refine EV.mapI [] (everyL script k 3) D.int (fun x => x % 10 ^ 12) ?hSrc .nil ?hE ?hZ
          case hSrc =>
            rw [← everyD_ints]
            exact EVit.list (EV.lstep (aN (by walk_at "go") ⟨by decide +kernel⟩) (aN (by walk_at "go") ⟨by decide +kernel⟩) (EV.int 3) (by decide) (by rw [List.length_map]; omega))
          case hE =>
            intro x hx
            walk_at "go"
            all_goals first | decide | exact oMod (by decide)
          case hZ =>
            refine Nat.le_trans (List.length_filterMap_le _ _) ?_
            exact Nat.le_trans (every_len script.length (List.mem_range.mpr (by omega)) k (by rcases hk3 with rfl | rfl | rfl <;> simp)) (by decide)
  obtain ⟨h0, h1, h2, hh⟩ : ∃ h0 h1 h2, heapsL script = [h0, h1, h2] := ⟨_, _, _, rfl⟩
  have hr' := hr h0 h1 h2 hh
  unfold lwA at hr'
  rw [hh] at hr' ⊢
  clear hh hr
  have lp := len_placesF h0
  have mp : ∀ x ∈ placesF h0, 0 ≤ x ∧ x ≤ 3 := fun x hx => mem_placesF hx
  refine aSet (d := dI (placesF h0)) (st₁ := st) (EV.call (aG B.places.glb ⟨by decide +kernel⟩) B.places.at_.callee (aS (st₁ := st) (d := .int h0) (aItem (st₁ := st) (aN (by walk_at "go") ⟨by decide +kernel⟩) (EV.int 0) (oLitem ⟨by decide, by decide, rfl⟩ ⟨by intro _ _; rfl⟩)) .nil ⟨fun _ => rfl⟩) (c_places (n := n + 4) B)) (by walk_at "go") ?_ ⟨by decide +kernel⟩ ⟨fun _ _ => rfl⟩
  refine aSetC (d := dI (looksF h1)) (st₁ := st) ?hLooks (by walk_at "go") ?_
  case hLooks =>
    refine EV.mapI ["heaps"] (zs 0 5) D.int (fun k => h1 / 48 / 2 ^ k.toNat % 2) (by walk_at "go"; decide) (.cons (by walk_at "go") .nil) ?hEl2 (by decide)
    case hEl2 =>
      intro k hk
      have hk5 : k = 0 ∨ k = 1 ∨ k = 2 ∨ k = 3 ∨ k = 4 := by obtain ⟨i, hi, rfl⟩ := mem_zs hk; omega
      walk_at "go"
      all_goals first | decide | omega | skip
      all_goals rcases hk5 with rfl | rfl | rfl | rfl | rfl <;> decide
  refine aSetC (d := dI (huesF h1 h2)) (st₁ := st) ?hHues (by walk_at "go") ?_
  case hHues =>
    refine EV.mapI ["heaps"] (zs 0 5) D.int (fun k => h1 % 48 + h2 / 24 ^ k.toNat % 24) (by walk_at "go"; decide) (.cons (by walk_at "go") .nil) ?hEl3 (by decide)
    case hEl3 =>
      intro k hk
      have hk5 : k = 0 ∨ k = 1 ∨ k = 2 ∨ k = 3 ∨ k = 4 := by obtain ⟨i, hi, rfl⟩ := mem_zs hk; omega
      walk_at "go"
      all_goals first | decide | omega | skip
      all_goals rcases hk5 with rfl | rfl | rfl | rfl | rfl <;> decide
  have ll : (looksF h1).length = 5 := by simp [looksF, zs]
  have ml : ∀ x ∈ looksF h1, 0 ≤ x ∧ x ≤ 1 := fun x hx => mem_looksF hx
  have lh : (huesF h1 h2).length = 5 := by simp [huesF, zs]
  generalize placesF h0 = places at lp mp hr' ⊢
  generalize looksF h1 = looks at ll ml hr' ⊢
  generalize huesF h1 h2 = hues at lh hr' ⊢
  refine aSetC (d := dI (topsF places looks)) (st₁ := st) ?hTops (by walk_at "go") ?_
  case hTops =>
    refine EV.mapIB ["looks", "places"] (zs 0 5) D.int (fun k => topF (places.getD k.toNat 0) (looks.getD k.toNat 0)) (by walk_at "go"; decide) (.cons (by walk_at "go") (.cons (by walk_at "go") .nil)) ?hEl4 (by decide)
    case hEl4 =>
      intro k hk
      have hk5 : 0 ≤ k ∧ k < 5 := by obtain ⟨i, hi, rfl⟩ := mem_zs hk; omega
      have ip := itemI (l := places) (k := k) hk5.1 (by omega) (by omega)
      have il := itemI (l := looks) (k := k) hk5.1 (by omega) (by omega)
      have h1 := getD_all (i := k.toNat) mp ⟨by decide, by decide⟩
      have h2 := getD_all (i := k.toNat) ml ⟨by decide, by decide⟩
      refine bItem (st₁ := st) (st₂ := st) (d1 := dI (([[16, 0], [32, 24], [16, 8], [32, 24]] : List (List Int)).getD (places.getD k.toNat 0).toNat [])) ?hA (bItem (st₁ := st) (st₂ := st) (bN (by walk_at "go") ⟨by decide +kernel⟩) (bN (by walk_at "go") ⟨by decide +kernel⟩) (bLit il ⟨by intro _ _; rfl⟩)) ?hB
      case hA =>
        refine bItem (st₁ := st) (st₂ := st) (d1 := .list [.list [.int 16, .int 0], .list [.int 32, .int 24], .list [.int 16, .int 8], .list [.int 32, .int 24]]) ?hT (bItem (st₁ := st) (st₂ := st) (bN (by walk_at "go") ⟨by decide +kernel⟩) (bN (by walk_at "go") ⟨by decide +kernel⟩) (bLit ip ⟨by intro _ _; rfl⟩)) (bLit ⟨h1.1, by omega, ?_⟩ ⟨by intro _ _; rfl⟩)
        case hT =>
          exact bL (bS (bL (bS bI (bS bI .nil ⟨fun _ => rfl⟩) ⟨fun _ => rfl⟩) ⟨by decide⟩) (bS (bL (bS bI (bS bI .nil ⟨fun _ => rfl⟩) ⟨fun _ => rfl⟩) ⟨by decide⟩) (bS (bL (bS bI (bS bI .nil ⟨fun _ => rfl⟩) ⟨fun _ => rfl⟩) ⟨by decide⟩) (bS (bL (bS bI (bS bI .nil ⟨fun _ => rfl⟩) ⟨fun _ => rfl⟩) ⟨by decide⟩) .nil ⟨fun _ => rfl⟩) ⟨fun _ => rfl⟩) ⟨fun _ => rfl⟩) ⟨fun _ => rfl⟩) ⟨by decide⟩
        · have q : places.getD k.toNat 0 = 0 ∨ places.getD k.toNat 0 = 1 ∨ places.getD k.toNat 0 = 2 ∨ places.getD k.toNat 0 = 3 := by omega
          rcases q with q | q | q | q <;> rw [q] <;> rfl
      case hB =>
        refine bLit ⟨h2.1, by omega, ?_⟩ ⟨by intro _ _; rfl⟩
        have q : places.getD k.toNat 0 = 0 ∨ places.getD k.toNat 0 = 1 ∨ places.getD k.toNat 0 = 2 ∨ places.getD k.toNat 0 = 3 := by omega
        have q2 : looks.getD k.toNat 0 = 0 ∨ looks.getD k.toNat 0 = 1 := by omega
        rcases q with q | q | q | q <;> rcases q2 with q2 | q2 <;> rw [q, q2] <;> rfl
  refine aSetC (d := dI (sharesF places looks)) (st₁ := st) ?hShares (by walk_at "go") ?_
  case hShares =>
    refine EV.mapI ["looks", "places"] (zs 0 5) D.int (fun k => if places.getD k.toNat 0 > 1 then 500 + 500 * looks.getD k.toNat 0 else 0) (by walk_at "go"; decide) (.cons (by walk_at "go") (.cons (by walk_at "go") .nil)) ?hEl5 (by decide)
    case hEl5 =>
      intro k hk
      have hk5 : 0 ≤ k ∧ k < 5 := by obtain ⟨i, hi, rfl⟩ := mem_zs hk; omega
      have ip := itemI (l := places) (k := k) hk5.1 (by omega) (by omega)
      have il := itemI (l := looks) (k := k) hk5.1 (by omega) (by omega)
      refine EV.eq (d := cond (decide (places.getD k.toNat 0 > 1)) (.int (500 + 500 * looks.getD k.toNat 0)) (.int 0)) ?hI ?hQ
      case hI =>
        walk_at "go"
        all_goals first | exact ip | exact il | decide | omega
      case hQ =>
        by_cases h : places.getD k.toNat 0 > 1
        · simp only [h, decide_true, cond_true, if_true]
        · simp only [h, decide_false, cond_false, if_false]
  have lt : (topsF places looks).length = 5 := by simp [topsF, zs]
  have ls : (sharesF places looks).length = 5 := by simp [sharesF, zs]
  have mt : ∀ x ∈ topsF places looks, 0 ≤ x ∧ x ≤ 32 := fun x hx => by
    obtain ⟨k, _, rfl⟩ := List.mem_map.mp hx
    exact topF_range (getD_all mp ⟨by decide, by decide⟩) (getD_all ml ⟨by decide, by decide⟩)
  have ms : ∀ x ∈ sharesF places looks, 0 ≤ x ∧ x ≤ 1000 := fun x hx => by
    obtain ⟨k, _, rfl⟩ := List.mem_map.mp hx
    have := getD_all (i := k.toNat) ml ⟨by decide, by decide⟩
    split <;> omega
  generalize topsF places looks = tops at lt mt hr' ⊢
  generalize sharesF places looks = shares at ls ms hr' ⊢
  refine aSetC (d := dS (wordsF hues shares tops)) (st₁ := st) ?hWords (by walk_at "go") hr'
  case hWords =>
    rw [show wordsF hues shares tops = (zs 0 5).map fun k => wordF (hues.getD k.toNat 0) (shares.getD k.toNat 0) (tops.getD k.toNat 0) from rfl, ← dS_map]
    refine EV.map ["hues", "shares", "tops"] (zs 0 5) D.int (fun k => .str (S (wordF (hues.getD k.toNat 0) (shares.getD k.toNat 0) (tops.getD k.toNat 0)))) (by walk_at "go"; decide) (.cons (by walk_at "go") (.cons (by walk_at "go") (.cons (by walk_at "go") .nil))) ?hEl6 (by decide)
    case hEl6 =>
      intro k hk
      have hk5 : 0 ≤ k ∧ k < 5 := by obtain ⟨i, hi, rfl⟩ := mem_zs hk; omega
      have ih := itemI (l := hues) (k := k) hk5.1 (by omega) (by omega)
      have is := itemI (l := shares) (k := k) hk5.1 (by omega) (by omega)
      have it := itemI (l := tops) (k := k) hk5.1 (by omega) (by omega)
      refine EV.call (aG B.word.glb ⟨by decide +kernel⟩) B.word.at_.callee (aS (st₁ := st) (aItem (st₁ := st) (aN (by walk_at "go") ⟨by decide +kernel⟩) (aN (by walk_at "go") ⟨by decide +kernel⟩) (oLitem ih ⟨by intro _ _; rfl⟩)) (aS (st₁ := st) (aItem (st₁ := st) (aN (by walk_at "go") ⟨by decide +kernel⟩) (aN (by walk_at "go") ⟨by decide +kernel⟩) (oLitem is ⟨by intro _ _; rfl⟩)) (aS (st₁ := st) (aItem (st₁ := st) (aN (by walk_at "go") ⟨by decide +kernel⟩) (aN (by walk_at "go") ⟨by decide +kernel⟩) (oLitem it ⟨by intro _ _; rfl⟩)) .nil ⟨fun _ => rfl⟩) ⟨fun _ => rfl⟩) ⟨fun _ => rfl⟩) (c_word (n := n + 4) B (getD_all ms ⟨by decide, by decide⟩) (getD_all mt ⟨by decide, by decide⟩))
end
end
section
theorem reps_of_items {h : Heap} : ∀ (l : List Value) (p : List Nat), l.length = p.length → (∀ (j : Nat) (v : Value), l[j]? = some v → ∃ (c : Nat) (u : Tok), p[j]? = some c ∧ v = Value.str ⟨#[c]⟩ u) → Reps Flat h l (dC p)
  | [], [], _, _ => .nil
  | [], _ :: _, e, _ => by simp at e
  | _ :: _, [], e, _ => by simp at e
  | v :: l, c :: p, e, q => by
    obtain ⟨c', u, h1, rfl⟩ := q 0 v rfl
    simp only [List.getElem?_cons_zero, Option.some.injEq] at h1
    subst h1
    exact .cons (.str _ _) (reps_of_items l p (by simpa using e) fun j v hj => by
      obtain ⟨c', u, h1, h2⟩ := q (j + 1) v (by rw [List.getElem?_cons_succ]; exact hj)
      exact ⟨c', u, by simpa using h1, h2⟩)
section
variable {hS : Heap} {prog : Program} {w : World} {n : Nat} {W : Wd hS} {st st₁ : W.σ}
theorem EVn.listOfStr {sc : Scope} {vars : List Str} {ρ : List (Option D)} {p pos : Pos} {arg : Expr} {t : List Nat} (B : Base hS) (q : EV prog w n W sc vars ρ st arg (.str (S t)) st₁) (hsz : t.length ≤ 1000000) (hk : sc.names.lookup (Str.ofString "list") = some NameKind.globalImplicit := by decide +kernel)
    (he : ∀ env, starEach [arg] env = (false, eval arg env) :: starEach [] env := by intro _; rfl) : EVn prog w n W sc vars ρ st (.Call (.Name "list" p) [arg] [] pos) (dC t) st₁ := fun A env U s r ft I => by
  have hn : EV prog w n W sc vars ρ st (.Name "list" p) (.raw (.type "list")) st := .blt B.list hk
  refine Call_ (wpAny_mono (hn A env U s r ft I) (fun v s1 q1 => ?_) fun _ _ x => x)
  have e := q1.2.2.of_raw
  subst e
  refine callWith_of (.type "list") (.cons q .nil he) r ft (I.step q1.1 q1.2.1) fun vs s2 x2 I2 r2 => ?_
  obtain ⟨v, rfl, rv⟩ := r2.one
  obtain ⟨t', rfl⟩ := rv.of_str
  refine call_list_str r.handled (S t) t' (fun h' tk acc' c' k hget hit => ?_) (by show t.toArray.size ≤ _; simp; exact Nat.le_trans hsz (by decide))
  have x3 : Ext W.Mut s2 { s2 with heap := h', toks := tk } := .heap k
  refine ⟨(q1.1.trans x2).trans x3, I2.hold0 (.heap k), _, acc'.toList, rfl, fresh_of_ext (q1.1.trans x2) (fun a m => W.alive I2.hold a (W.mutF a m)) (get_size_none _), ⟨c', by simpa using hget⟩, ?_⟩
  refine reps_of_items _ _ (by have := hit.1; simpa [S] using this) fun j v hj => ?_
  obtain ⟨c, u, h1, h2⟩ := hit.2 j v (by simpa using hj)
  exact ⟨c, u, by simpa [S] using h1, h2⟩
noncomputable abbrev lwL (script places looks hues tops shares : List Int) (words : List (List Nat)) (SG LX : Addr) : List (Option D) := [some (dI script), some (.tuple [.int 768265, .int 617022, .int 1939659]), some (dI (heapsL script)), some (dI places), some (dI looks), some (dI hues), some (dI tops), some (dI shares), some (dS words), some (.raw (.ref SG)), some (.raw (.ref LX)), none, none, none, none, none, none, none, none, none, none, none, none]
theorem law_B {script places looks hues tops shares : List Int} {words : List (List Nat)} {d : D} {x' : Lx} (B : Base hS) (L : LexBase hS) (l1 : words.length = 5) (l2 : ∀ p ∈ words, p.length = 3) (lt : (textF words).length ≤ 1000) (hf : isFlat d = true)
    (hr : ∀ (a : LA) (ok : LA.Ok hS a), EX prog w (n + 9) (lexW hS a ok) lwS lwV (lwL script places looks hues tops shares words a.SG a.LX) ⟨1, [], textF words⟩ (lwB.drop 10) (.ret d x')) :
    EX prog w (n + 9) (tabW hS L.hide) lwS lwV (lwA script places looks hues tops shares words) false (lwB.drop 8) (.ret d true) := by
  refine EX.own (st₁ := false) (ds := dC (textF words)) (fun SG => [some (dI script), some (.tuple [.int 768265, .int 617022, .int 1939659]), some (dI (heapsL script)), some (dI places), some (dI looks), some (dI hues), some (dI tops), some (dI shares), some (dS words), some (.raw (.ref SG)), none, none, none, none, none, none, none, none, none, none, none, none, none]) (EVn.listOfStr B ?hTxt (Nat.le_trans lt (by decide))) (fun SG => by walk_at "go") (fun SG h1 h2 => ⟨.ret d (true, dC x'.sg), ?_, .same⟩)
  case hTxt => exact EV.call (aG B.text.glb ⟨by decide +kernel⟩) B.text.at_.callee (aS (aN (by walk_at "go") ⟨by decide +kernel⟩) .nil ⟨fun _ => rfl⟩) (c_text (n := n + 7) B l1 l2)
  refine EX.enterLex (fun LX => lwL script places looks hues tops shares words SG LX) ?hEv (fun LX => by walk_at "go") ?hRest hf
  case hEv => exact fun A env U s r f I0 => ev_lexer B L (by walk_at "go") r f I0
  case hRest =>
    intro a ok hSG
    have := hr a ok
    rw [hSG] at this
    exact this
end
end
section
noncomputable def linesL : List Int := [1, 1, 1, 2, 3]
noncomputable def leftsL : List Int := [29, 22, 18, 9, 0]
noncomputable def rowT (words : List (List Nat)) (k : Int) : List D := [.str (S (words.getD k.toNat [])), .int (linesL.getD k.toNat 0), .int (leftsL.getD k.toNat 0)]
noncomputable def rowD (words : List (List Nat)) : D := .list ((zs 0 5).map fun k => .tuple (rowT words k))
noncomputable def lexX (words : List (List Nat)) : Nat → Lx
  | 0 => ⟨1, [], textF words⟩
  | i + 1 => (tokR (lexX words i)).2
structure RowOk (words : List (List Nat)) : Prop where
  tok : ∀ i, i < 5 → (tokR (lexX words i)).1 = words.getD i []
  line : ∀ i, i < 5 → (lexX words (i + 1)).line = linesL.getD i 0
  left : ∀ i, i < 5 → ((lexX words (i + 1)).sg.length : Int) = leftsL.getD i 0
  sg : ∀ i, i < 5 → SgOk (lexX words i) []
  pb : ∀ i, i < 5 → (lexX words i).pb = []
  last : lexX words 5 = x3
  py : isPy (rowD words) = true
theorem zs_split {pre post : List Int} {x : Int} (h : zs 0 5 = pre ++ x :: post) : pre.length < 5 ∧ x = (pre.length : Int) := by
  have h5 : (zs 0 5).length = 5 := by simp [zs]
  have hl : pre.length < 5 := by rw [h] at h5; simp at h5; omega
  have hx : (zs 0 5)[pre.length]? = some x := by rw [h]; simp
  refine ⟨hl, ?_⟩
  unfold zs at hx
  rw [List.getElem?_map, List.getElem?_range hl] at hx
  simp at hx
  omega
theorem depth_row (words : List (List Nat)) : (py (rowD words)).depth ≤ 30 := by
  have e : zs 0 5 = [0, 1, 2, 3, 4] := by decide +kernel
  unfold rowD
  rw [e]
  simp [rowT, py, pys, PyData.depth, PyData.depthAll]
section
variable {hS : Heap} {prog : Program} {w : World} {n : Nat}
variable {a : LA} {ok : LA.Ok hS a}
variable {W : Wd hS} {st : W.σ}
theorem ev_rng {sc : Scope} {vars : List Str} {ρ : List (Option D)} {p1 p2 p3 : Pos} {m : Nat} (B : Base hS) (k : Nat) (hk : k < 1000000) (hd : Dk (List.lookup (Str.ofString "range") sc.names = some NameKind.globalImplicit ∧ (Str.ofString "range" == Str.ofString "__debug__") = false)) :
    EVit prog w n W sc vars ρ st (Expr.Call (Expr.Name (Str.ofString "range") p1) [Expr.Constant (Const.int k) m p2] [] p3) ((zs 0 k).map .int) st :=
  aRange1 (st₁ := st) (st₂ := st) (b := (k : Int)) (aB B.range hd) (EV.int k) ⟨by omega, by omega, by omega⟩ ⟨fun _ => rfl⟩
noncomputable abbrev lwR (script places looks hues tops shares : List Int) (words : List (List Nat)) (SG LX : Addr) : List (Option D) := [some (dI script), some (.tuple [.int 768265, .int 617022, .int 1939659]), some (dI (heapsL script)), some (dI places), some (dI looks), some (dI hues), some (dI tops), some (dI shares), some (dS words), some (.raw (.ref SG)), some (.raw (.ref LX)), some (rowD words), none, none, none, none, none, none, none, none, none, none, none]
set_option maxHeartbeats 4000000 in
theorem law_row {script places looks hues tops shares : List Int} {words : List (List Nat)} {o : Out Lx} (B : Base hS) (L : LexBase hS) (RO : RowOk words)
    (hr : EX prog w (n + 9) (lexW hS a ok) lwS lwV (lwR script places looks hues tops shares words a.SG a.LX) x3 (lwB.drop 11) o) :
    EX prog w (n + 9) (lexW hS a ok) lwS lwV (lwL script places looks hues tops shares words a.SG a.LX) ⟨1, [], textF words⟩ (lwB.drop 10) o := by
  have g1 := B.range
  -- row
  refine EX.assignComp 11 ["k"] ["lexer", "signs"] [10, 9] [.raw (.ref a.LX), .raw (.ref a.SG)] (zs 0 5) D.int (fun k => [.int k]) (fun _ => true) (fun k => .tuple (rowT words k)) (fun pre => lexX words pre.length) (by decide +kernel) rfl (fun env f => swaps_eq (b := true) (by decide +kernel) env f) (by decide +kernel) rfl rfl (by decide) ?hSrc ?hAS (fun _ _ => rfl) ?hTurn ?hRest (hfs := ?hFs)
  case hFs => intro _ _; rfl
  case hSrc =>
    refine ev_rng (W := lexW hS a ok) (st := lexX words 0) B 5 (by decide) ?hd
    exact ⟨by decide +kernel⟩
  case hAS =>
    intro k _
    refine AS.var .here ?nd
    decide +kernel
  case hTurn =>
    intro pre x post hs
    obtain ⟨hl, rfl⟩ := zs_split hs
    refine ⟨lexX words pre.length, .nil, fun _ => ?_, fun h => by cases h⟩
    have e0 : (pre ++ [((pre.length : Nat) : Int)]).length = pre.length + 1 := by simp
    rw [e0]
    have hsg := RO.sg pre.length hl
    have hpb := RO.pb pre.length hl
    have htk := RO.tok pre.length hl
    have hst : lexX words (pre.length + 1) = (tokR (lexX words pre.length)).2 := rfl
    have hln := RO.line pre.length hl
    have hlf := RO.left pre.length hl
    have hz : ((pre.length : Nat) : Int).toNat = pre.length := by omega
    show EV _ _ _ _ _ ["k", "lexer", "signs"] [some (.int ((pre.length : Nat) : Int)), some (.raw (.ref a.LX)), some (.raw (.ref a.SG))] _ _ (.tuple [.str (S (words.getD ((pre.length : Nat) : Int).toNat [])), .int (linesL.getD ((pre.length : Nat) : Int).toNat 0), .int (leftsL.getD ((pre.length : Nat) : Int).toNat 0)]) _
    rw [hz, ← htk, ← hln, ← hlf]
    have hA : At ["k", "lexer", "signs"] [some (.int ((pre.length : Nat) : Int)), some (.raw (.ref a.LX)), some (.raw (.ref a.SG))] "lexer" (.raw (.ref a.LX)) := by walk_at "go"
    have hB : At ["k", "lexer", "signs"] [some (.int ((pre.length : Nat) : Int)), some (.raw (.ref a.LX)), some (.raw (.ref a.SG))] "signs" (.raw (.ref a.SG)) := by walk_at "go"
    refine aT (aS (st₁ := lexX words (pre.length + 1)) ?hA (aS (st₁ := lexX words (pre.length + 1)) ?hB (aS (st₁ := lexX words (pre.length + 1)) ?hC .nil ⟨fun _ => rfl⟩) ⟨fun _ => rfl⟩) ⟨fun _ => rfl⟩) ⟨by decide +kernel⟩
    case hA => exact EV.methW (st₁ := lexX words pre.length) (st₂ := lexX words pre.length) (aN hA ⟨by decide +kernel⟩) (meth_lex (ok := ok) L (.inr (.inl ⟨rfl, rfl⟩))) ⟨_, rfl⟩ L.tok.callee .nil (c_token (n := n + 5) B.lim L B.iter hsg (by rw [hpb]; decide))
    case hB => exact EV.attrW (st₁ := lexX words (pre.length + 1)) (aN hA ⟨by decide +kernel⟩) (attr_line (ok := ok) L)
    case hC =>
      refine EV.callW (st₁ := lexX words (pre.length + 1)) (st₂ := lexX words (pre.length + 1)) (aB B.len ⟨by decide +kernel⟩) (.builtin _) (aS (aN hB ⟨by decide +kernel⟩) .nil ⟨fun _ => rfl⟩) (lex_lenSG (x := lexX words (pre.length + 1)) ?hLen)
      case hLen =>
        have : (leftsL.getD pre.length 0) ≤ 29 := getD_all (p := fun z => z ≤ 29) (by decide) (by decide)
        have h9 : ((lexX words (pre.length + 1)).sg.length : Int) ≤ 29 := by rw [hlf]; exact this
        omega
  case hRest =>
    have ef : (zs 0 5).filter (fun _ => true) = zs 0 5 := by simp
    rw [ef]
    have e5 : lexX words (zs 0 5).length = x3 := by rw [show (zs 0 5).length = 5 by simp [zs]]; exact RO.last
    show EX _ _ _ (lexW hS a ok) _ _ (lwR script places looks hues tops shares words a.SG a.LX) (lexX words (zs 0 5).length) _ _
    rw [e5]
    exact hr
set_option maxHeartbeats 4000000 in
theorem law_if1 {script places looks hues tops shares : List Int} {words : List (List Nat)} {SG LX : Addr} {o : Out W.σ} (B : Base hS) (RO : RowOk words) (l4 : words.length = 5)
    (hr : EX prog w (n + 9) W lwS lwV (lwR script places looks hues tops shares words SG LX) st (lwB.drop 12) o) :
    EX prog w (n + 9) W lwS lwV (lwR script places looks hues tops shares words SG LX) st (lwB.drop 11) o := by
  have g1 := B.range
  refine aIf (b := false) (st₁ := st) ?hT1 (fun h => by cases h) (fun _ => ?hK1)
  case hK1 =>
    show EX _ _ _ _ _ _ _ _ ([] ++ lwB.drop 12) _
    exact hr
  case hT1 =>
    refine tC (d1 := rowD words) (d2 := rowD words) (st₁ := st) (aN (by walk_at "go") ⟨by decide +kernel⟩) ?hRw (op_dneS RO.py rfl (depth_row words)) ⟨rfl⟩
    case hRw =>
      refine EV.mapB ["words"] (zs 0 5) D.int (fun k => .tuple (rowT words k)) ?hSr (.cons (by walk_at "go") .nil) ?hE1 (by decide)
      case hSr =>
        walk_at "go"
        decide
      case hE1 =>
        intro k hk
        have hk5 : k = 0 ∨ k = 1 ∨ k = 2 ∨ k = 3 ∨ k = 4 := by obtain ⟨i, hi, rfl⟩ := mem_zs hk; omega
        refine bT (bS (st₁ := st) (bItem (st₁ := st) (bN (by walk_at "go") ⟨by decide +kernel⟩) (bN (by walk_at "go") ⟨by decide +kernel⟩) (bLit ?hw1 ⟨by intro _ _; rfl⟩)) (bS (st₁ := st) (bItem (st₁ := st) (bL (bS bI (bS bI (bS bI (bS bI (bS bI .nil ⟨fun _ => rfl⟩) ⟨fun _ => rfl⟩) ⟨fun _ => rfl⟩) ⟨fun _ => rfl⟩) ⟨fun _ => rfl⟩) ⟨by decide⟩) (bN (by walk_at "go") ⟨by decide +kernel⟩) (bLit ?hw2 ⟨by intro _ _; rfl⟩)) (bS (st₁ := st) (bItem (st₁ := st) (bL (bS bI (bS bI (bS bI (bS bI (bS bI .nil ⟨fun _ => rfl⟩) ⟨fun _ => rfl⟩) ⟨fun _ => rfl⟩) ⟨fun _ => rfl⟩) ⟨fun _ => rfl⟩) ⟨by decide⟩) (bN (by walk_at "go") ⟨by decide +kernel⟩) (bLit ?hw3 ⟨by intro _ _; rfl⟩)) .nil ⟨fun _ => rfl⟩) ⟨fun _ => rfl⟩) ⟨fun _ => rfl⟩) ⟨by decide⟩
        case hw1 =>
          refine ⟨by omega, by omega, ?_⟩
          have : k.toNat < words.length := by omega
          simp [List.getD_eq_getElem?_getD, this]
        case hw2 => rcases hk5 with rfl | rfl | rfl | rfl | rfl <;> exact ⟨by decide, by decide, rfl⟩
        case hw3 => rcases hk5 with rfl | rfl | rfl | rfl | rfl <;> exact ⟨by decide, by decide, rfl⟩
end
end
section
noncomputable def toldL (words : List (List Nat)) : List (List Int) := (zs 0 5).map fun k => toldW (words.getD k.toNat [])
noncomputable def comingF (tops : List Int) : List Int := (zs 0 5).map fun k => if tops.getD k.toNat 0 * 1000 > 16000 then 1 else 0
noncomputable def countersF (shares : List Int) : List Int := (zs 0 5).map fun k => if shares.getD k.toNat 0 > 0 then 1 else 0
theorem isPy_dLL : ∀ l : List (List Int), isPys (l.map dI) = true
  | [] => rfl
  | x :: l => by simp only [List.map_cons, isPys, isPy, isPys_ints x, isPy_dLL l, Bool.and_self]
theorem depth_dLL : ∀ l : List (List Int), PyData.depthAll (pys (l.map dI)) ≤ 1
  | [] => by simp [pys, PyData.depthAll]
  | x :: l => by
    have := depth_dLL l
    have h := depthAll_ints x
    simp only [List.map_cons, pys, py, PyData.depthAll, PyData.depth] at this ⊢
    omega
theorem depth_dLL' (l : List (List Int)) : (py (dLL l)).depth ≤ 30 := by
  have := depth_dLL l
  simp only [py, PyData.depth] at this ⊢
  omega
section
variable {hS : Heap} {prog : Program} {w : World} {n : Nat}
variable {W : Wd hS} {st : W.σ}
theorem EV.mapT3 {sc : Scope} {vars : List Str} {ρ : List (Option D)} {α : Type} {elt iter : Expr} {scope : Scope} {pos : Pos} {k : Nat} {tp p1 p2 p3 : Pos} {x y z : Str} {capd : List D} {capr : List (Option D)} (capn : List Str) (xs : List α) (g : α → D) (t1 t2 t3 : α → D) (f : α → D)
    (hsrc : EVit prog w n W sc vars ρ st iter (xs.map g) st) (hc : Caps vars ρ capn capd capr) (hg : ∀ a, g a = .tuple [t1 a, t2 a, t3 a] ∨ g a = .list [t1 a, t2 a, t3 a])
    (helt : ∀ a ∈ xs, Bx (EV prog w n W (relabelS scope sc) (x :: y :: z :: capn) (some (t1 a) :: some (t2 a) :: some (t3 a) :: capr) st elt (f a) st)) (hsz : xs.length ≤ 1000000) (hok : scopeOk scope sc [x, y, z] capn = true := by decide +kernel) (nd : (x :: y :: z :: capn).Nodup := by decide +kernel)
    (hfs : ∀ env x, foldedSetIterable iter env x = pure x := by intro _ _; rfl) :
    EV prog w n W sc vars ρ st (.ListComp elt [⟨.Tuple [.Name x p1, .Name y p2, .Name z p3] k tp, iter, [], 0⟩] scope pos) (.list (xs.map f)) st :=
  EV.mapT [x, y, z] [p1, p2, p3] capn xs g (fun a => [t1 a, t2 a, t3 a]) f hsrc hc (fun a _ => hg a) (fun _ _ => .cons .here (.cons (.there .here) (.cons (.there (.there .here)) .nil))) (fun a ha => (helt a ha).h) hsz hok nd rfl hfs
theorem c_toldW {p : List Nat} (B : Base hS) (h : told3 p = true) : Op hS prog w (n + 2) (Call (Value.ref 122)) [D.str (S p)] (dI (toldW p)) := by
  match p, h with
  | [a, b, c], h => exact c_told B h
noncomputable abbrev lwD (script places looks hues tops shares : List Int) (words : List (List Nat)) (told : List (List Int)) (SG LX : Addr) : List (Option D) := [some (dI script), some (.tuple [.int 768265, .int 617022, .int 1939659]), some (dI (heapsL script)), some (dI places), some (dI looks), some (dI hues), some (dI tops), some (dI shares), some (dS words), some (.raw (.ref SG)), some (.raw (.ref LX)), some (rowD words), some (dLL told), none, none, none, none, none, none, none, none, none, none]
noncomputable abbrev lwE (script places looks hues tops shares : List Int) (words : List (List Nat)) (told : List (List Int)) (coming counters : List Int) (SG LX : Addr) : List (Option D) := [some (dI script), some (.tuple [.int 768265, .int 617022, .int 1939659]), some (dI (heapsL script)), some (dI places), some (dI looks), some (dI hues), some (dI tops), some (dI shares), some (dS words), some (.raw (.ref SG)), some (.raw (.ref LX)), some (rowD words), some (dLL told), some (dI coming), some (dI counters), none, none, none, none, none, none, none, none]
set_option maxHeartbeats 1000000 in
theorem law_told {SG LX : Addr} {script places looks hues tops shares : List Int} {words : List (List Nat)} {o : Out W.σ} (B : Base hS) (l1 : hues.length = 5) (l2 : shares.length = 5) (l3 : tops.length = 5) (hb : ∀ x ∈ tops, -1000 < x ∧ x < 1000)
    (ht : ∀ k, k ∈ zs 0 5 → told3 (words.getD k.toNat []) = true) (htd : toldL words = dueF hues shares tops)
    (hr : EX prog w (n + 9) W lwS lwV (lwD script places looks hues tops shares words (dueF hues shares tops) SG LX) st (lwB.drop 14) o) :
    EX prog w (n + 9) W lwS lwV (lwR script places looks hues tops shares words SG LX) st (lwB.drop 12) o := by
  refine aSetC (d := dLL (dueF hues shares tops)) (st₁ := st) ?hTold (by walk_at "go") ?hK
  case hTold =>
    have e : (dLL (dueF hues shares tops)) = .list ((zs 0 5).map fun k => dI (toldW (words.getD k.toNat []))) := by
      rw [← htd]; unfold toldL dLL; rw [List.map_map]; rfl
    rw [e]
    refine EV.mapT3 [] (zs 0 5) (fun k => .tuple (rowT words k)) (fun k => .str (S (words.getD k.toNat []))) (fun k => .int (linesL.getD k.toNat 0)) (fun k => .int (leftsL.getD k.toNat 0)) (fun k => dI (toldW (words.getD k.toNat []))) ?hS .nil (fun _ => .inl rfl) ?hE ?hZ
    case hZ => decide
    case hS =>
      have hrow : At lwV (lwR script places looks hues tops shares words SG LX) (Str.ofString "row") (rowD words) := by walk_at "go"
      exact EVit.list (aN hrow ⟨by decide +kernel⟩)
    case hE =>
      intro k hk
      exact ⟨EV.call (aG B.told.glb ⟨by decide +kernel⟩) B.told.at_.callee (aS (st₁ := st) (aN (by walk_at "go") ⟨by decide +kernel⟩) .nil ⟨fun _ => rfl⟩) (c_toldW (n := n + 7) B (ht k hk))⟩
  case hK =>
    refine aIf (b := false) (st₁ := st) ?hT1 (fun h => by cases h) (fun _ => ?hK1)
    case hK1 =>
      show EX _ _ _ _ _ _ _ _ ([] ++ lwB.drop 14) _
      exact hr
    case hT1 =>
      refine tC (d1 := dLL (dueF hues shares tops)) (d2 := dLL (dueF hues shares tops)) (st₁ := st) (aN (by walk_at "go") ⟨by decide +kernel⟩) ?hRw (op_dneS (isPy_dLL _) rfl (depth_dLL' _)) ⟨rfl⟩
      case hRw => exact EV.call (aG B.due.glb ⟨by decide +kernel⟩) B.due.at_.callee (aS (st₁ := st) (aN (by walk_at "go") ⟨by decide +kernel⟩) (aS (st₁ := st) (aN (by walk_at "go") ⟨by decide +kernel⟩) (aS (st₁ := st) (aN (by walk_at "go") ⟨by decide +kernel⟩) .nil ⟨fun _ => rfl⟩) ⟨fun _ => rfl⟩) ⟨fun _ => rfl⟩) (c_due (n := n + 7) B l1 l2 l3 hb)
noncomputable def due3 (hues shares tops : List Int) (k : Int) : List D := [.int (if shares.getD k.toNat 0 > 0 then hues.getD k.toNat 0 % 48 * 1000 else 0), .int (shares.getD k.toNat 0), .int (tops.getD k.toNat 0 * 1000)]
theorem due_map (hues shares tops : List Int) : (dueF hues shares tops).map dI = (zs 0 5).map fun k => .list (due3 hues shares tops k) := by
  unfold dueF due3; rw [List.map_map]; rfl
set_option maxHeartbeats 1000000 in
theorem law_come {SG LX : Addr} {script places looks hues tops shares : List Int} {words : List (List Nat)} {o : Out W.σ} (B : Base hS)
    (hr : EX prog w (n + 9) W lwS lwV (lwE script places looks hues tops shares words (dueF hues shares tops) (comingF tops) (countersF shares) SG LX) st (lwB.drop 16) o) :
    EX prog w (n + 9) W lwS lwV (lwD script places looks hues tops shares words (dueF hues shares tops) SG LX) st (lwB.drop 14) o := by
  refine aSetC (d := dI (comingF tops)) (st₁ := st) ?hCo (by walk_at "go") ?hK
  case hCo =>
    have e : dI (comingF tops) = .list ((zs 0 5).map fun k => .int (if tops.getD k.toNat 0 * 1000 > 16000 then 1 else 0)) := by
      unfold comingF dI; rw [List.map_map]; rfl
    rw [e]
    refine EV.mapT3 [] (zs 0 5) (fun k => .list (due3 hues shares tops k)) (fun k => .int (if shares.getD k.toNat 0 > 0 then hues.getD k.toNat 0 % 48 * 1000 else 0)) (fun k => .int (shares.getD k.toNat 0)) (fun k => .int (tops.getD k.toNat 0 * 1000)) (fun k => .int (if tops.getD k.toNat 0 * 1000 > 16000 then 1 else 0)) ?hS .nil (fun _ => .inr rfl) ?hE ?hZ
    case hZ => decide
    case hS =>
      rw [← due_map]
      exact EVit.list (aN (by walk_at "go") ⟨by decide +kernel⟩)
    case hE =>
      intro k hk
      refine Bx.mk (EV.eq (d := cond (decide (tops.getD k.toNat 0 * 1000 > 16000)) (.int 1) (.int 0)) ?hI ?hQ)
      case hI =>
        walk_at "go"
      case hQ =>
        by_cases h : tops.getD k.toNat 0 * 1000 > 16000
        · simp only [h, decide_true, cond_true, if_true]
        · simp only [h, decide_false, cond_false, if_false]
  case hK =>
    refine aSetC (d := dI (countersF shares)) (st₁ := st) ?hCt (by walk_at "go") hr
    case hCt =>
      have e : dI (countersF shares) = .list ((zs 0 5).map fun k => .int (if shares.getD k.toNat 0 > 0 then 1 else 0)) := by
        unfold countersF dI; rw [List.map_map]; rfl
      rw [e]
      refine EV.mapT3 [] (zs 0 5) (fun k => .list (due3 hues shares tops k)) (fun k => .int (if shares.getD k.toNat 0 > 0 then hues.getD k.toNat 0 % 48 * 1000 else 0)) (fun k => .int (shares.getD k.toNat 0)) (fun k => .int (tops.getD k.toNat 0 * 1000)) (fun k => .int (if shares.getD k.toNat 0 > 0 then 1 else 0)) ?hS2 .nil (fun _ => .inr rfl) ?hE2 ?hZ2
      case hZ2 => decide
      case hS2 =>
        rw [← due_map]
        exact EVit.list (aN (by walk_at "go") ⟨by decide +kernel⟩)
      case hE2 =>
        intro k hk
        refine Bx.mk (EV.eq (d := cond (decide (shares.getD k.toNat 0 > 0)) (.int 1) (.int 0)) ?hI2 ?hQ2)
        case hI2 =>
          walk_at "go"
        case hQ2 =>
          by_cases h : shares.getD k.toNat 0 > 0
          · simp only [h, decide_true, cond_true, if_true]
          · simp only [h, decide_false, cond_false, if_false]
end
section
variable {hS : Heap} {prog : Program} {w : World} {n : Nat}
variable {a : LA} {ok : LA.Ok hS a}
noncomputable abbrev lwF (script places looks hues tops shares : List Int) (words : List (List Nat)) (told : List (List Int)) (coming counters ring : List Int) (SG LX : Addr) : List (Option D) := [some (dI script), some (.tuple [.int 768265, .int 617022, .int 1939659]), some (dI (heapsL script)), some (dI places), some (dI looks), some (dI hues), some (dI tops), some (dI shares), some (dS words), some (.raw (.ref SG)), some (.raw (.ref LX)), some (rowD words), some (dLL told), some (dI coming), some (dI counters), some (dI ring), none, none, none, none, none, none, none]
theorem law_ringIf {W : Wd hS} {st : W.σ} {SG LX : Addr} {script places looks hues tops shares : List Int} {words : List (List Nat)} {told : List (List Int)} {coming counters ring : List Int} {o : Out W.σ} (h1 : ring.any (fun x => x == 1) = true)
    (hr : EX prog w (n + 9) W lwS lwV (lwF script places looks hues tops shares words told coming counters ring SG LX) st (lwB.drop 18) o) :
    EX prog w (n + 9) W lwS lwV (lwF script places looks hues tops shares words told coming counters ring SG LX) st (lwB.drop 17) o := by
  refine aIf (b := false) (st₁ := st) ?hT1 (fun h => by cases h) (fun _ => ?hK1)
  case hK1 =>
    show EX _ _ _ _ _ _ _ _ ([] ++ lwB.drop 18) _
    exact hr
  case hT1 =>
    refine tC (d1 := .int 1) (d2 := dI ring) (st₁ := st) (EV.int 1) (aN (by walk_at "go") ⟨by decide +kernel⟩) ?hRw ⟨rfl⟩
    case hRw =>
      have := op_inotin (hS := hS) (prog := prog) (w := w) (n := n + 9) (l := ring) (k := 1)
      rw [h1] at this
      exact this
theorem law_ring {script places looks hues tops shares : List Int} {words : List (List Nat)} {told : List (List Int)} {coming counters : List Int} {o : Out Lx} (B : Base hS) (L : LexBase hS) (l1 : coming.length = 5) (l2 : counters.length = 5) (hx : (lnAll coming counters x3).1 = x3)
    (hr : EX prog w (n + 9) (lexW hS a ok) lwS lwV (lwF script places looks hues tops shares words told coming counters (lineF coming counters x3) a.SG a.LX) x3 (lwB.drop 17) o) :
    EX prog w (n + 9) (lexW hS a ok) lwS lwV (lwE script places looks hues tops shares words told coming counters a.SG a.LX) x3 (lwB.drop 16) o := by
  refine aSet (d := dI (lineF coming counters x3)) (st₁ := x3) ?hRg (by walk_at "go") hr ⟨by decide +kernel⟩ ⟨fun _ _ => rfl⟩
  case hRg =>
    refine EV.callW (st₁ := x3) (st₂ := x3) (aG B.line.glb ⟨by decide +kernel⟩) B.line.at_.callee (aS (st₁ := x3) (aN (by walk_at "go") ⟨by decide +kernel⟩) (aS (st₁ := x3) (aN (by walk_at "go") ⟨by decide +kernel⟩) (aS (st₁ := x3) (aN (by walk_at "go") ⟨by decide +kernel⟩) .nil ⟨fun _ => rfl⟩) ⟨fun _ => rfl⟩) ⟨fun _ => rfl⟩) ?hOp
    case hOp =>
      have := c_line (prog := prog) (w := w) (n := n + 3) (a := a) (ok := ok) B L (x := x3) l1 l2 rfl rfl
      rw [hx] at this
      exact this
end
end
section
noncomputable def step3 (c : Int) (ring : List Int) (k : Int) : Int := ([c, 0, 0] : List Int).getD (ring.getD k.toNat 0).toNat 0
noncomputable def paintA (hues shares tops ring : List Int) (k : Int) : Int := (if shares.getD k.toNat 0 > 0 then hues.getD k.toNat 0 % 48 * 1000 else 0) + step3 24000 ring k
noncomputable def afterF (hues shares tops ring : List Int) : List (List Nat) := (zs 0 5).map fun k => paintF (paintA hues shares tops ring k) (shares.getD k.toNat 0) (tops.getD k.toNat 0 * 1000)
noncomputable def ledF (hues ring : List Int) : List Int := (zs 0 5).map fun k => hues.getD k.toNat 0 + step3 24 ring k
theorem dS_depth : ∀ l : List (List Nat), PyData.depthAll (pys (l.map fun p => D.str (S p))) = 0
  | [] => rfl
  | x :: l => by
    have := dS_depth l
    simp only [List.map_cons, pys, py, PyData.depthAll, PyData.depth, this]
    rfl
theorem dS_depth' (l : List (List Nat)) : (py (dS l)).depth ≤ 30 := by
  have := dS_depth l
  show (py (D.list (l.map fun p => D.str (S p)))).depth ≤ 30
  simp only [py, PyData.depth] at this ⊢
  omega
theorem dueItem {hues shares tops : List Int} {k : Int} (h : k ∈ zs 0 5) : 0 ≤ k ∧ k < 2 ^ 63 ∧ ((dueF hues shares tops).map dI)[k.toNat]? = some (.list (due3 hues shares tops k)) := by
  have hk5 : k = 0 ∨ k = 1 ∨ k = 2 ∨ k = 3 ∨ k = 4 := by obtain ⟨i, hi, rfl⟩ := mem_zs h; omega
  rw [due_map]
  refine ⟨by omega, by omega, ?_⟩
  rcases hk5 with rfl | rfl | rfl | rfl | rfl <;> rfl
theorem stepItem {c : Int} {ring : List Int} {k : Int} (hr : ∀ x ∈ ring, 0 ≤ x ∧ x ≤ 2) : 0 ≤ ring.getD k.toNat 0 ∧ ring.getD k.toNat 0 < 2 ^ 63 ∧ ([D.int c, .int 0, .int 0])[(ring.getD k.toNat 0).toNat]? = some (.int (step3 c ring k)) := by
  have h := getD_all (i := k.toNat) hr ⟨by decide, by decide⟩
  unfold step3
  have q : ring.getD k.toNat 0 = 0 ∨ ring.getD k.toNat 0 = 1 ∨ ring.getD k.toNat 0 = 2 := by omega
  rcases q with q | q | q <;> rw [q] <;> exact ⟨by decide, by decide, rfl⟩
section
variable {hS : Heap} {prog : Program} {w : World} {n : Nat}
variable {W : Wd hS} {st : W.σ}
noncomputable abbrev lwG (script places looks hues tops shares : List Int) (words : List (List Nat)) (told : List (List Int)) (coming counters ring : List Int) (after : List (List Nat)) (led : List Int) (SG LX : Addr) : List (Option D) := [some (dI script), some (.tuple [.int 768265, .int 617022, .int 1939659]), some (dI (heapsL script)), some (dI places), some (dI looks), some (dI hues), some (dI tops), some (dI shares), some (dS words), some (.raw (.ref SG)), some (.raw (.ref LX)), some (rowD words), some (dLL told), some (dI coming), some (dI counters), some (dI ring), some (dS after), some (dI led), none, none, none, none, none]
set_option maxHeartbeats 1000000 in
theorem law_after {SG LX : Addr} {script places looks hues tops shares coming counters ring : List Int} {words : List (List Nat)} {o : Out W.σ} (B : Base hS) (l1 : hues.length = 5) (l2 : shares.length = 5) (l3 : tops.length = 5) (l4 : ring.length = 5) (hrg : ∀ x ∈ ring, 0 ≤ x ∧ x ≤ 2)
    (hp : ∀ k, k ∈ zs 0 5 → paintOk (paintA hues shares tops ring k) (shares.getD k.toNat 0) (tops.getD k.toNat 0 * 1000) = true)
    (hr : EX prog w (n + 9) W lwS lwV (lwG script places looks hues tops shares words (dueF hues shares tops) coming counters ring (afterF hues shares tops ring) (ledF hues ring) SG LX) st (lwB.drop 20) o) :
    EX prog w (n + 9) W lwS lwV (lwF script places looks hues tops shares words (dueF hues shares tops) coming counters ring SG LX) st (lwB.drop 18) o := by
  have g1 := B.range
  refine aSetM ["ring", "told"] (zs 0 5) D.int (fun k => .str (S (paintF (paintA hues shares tops ring k) (shares.getD k.toNat 0) (tops.getD k.toNat 0 * 1000)))) (by walk_at "go"; decide) (.cons (by walk_at "go") (.cons (by walk_at "go") .nil)) ?hE (by rw [dS_map]; walk_at "go") ?hK (by decide)
  case hE =>
    intro k hk
    have hk5 : 0 ≤ k ∧ k < 5 := by obtain ⟨i, hi, rfl⟩ := mem_zs hk; omega
    have ir := itemI (l := ring) (k := k) hk5.1 (by omega) (by omega)
    have iD := dueItem (hues := hues) (shares := shares) (tops := tops) hk
    have t0 : (0 : Int) ≤ 0 ∧ (0 : Int) < 2 ^ 63 ∧ (due3 hues shares tops k)[(0 : Int).toNat]? = some (.int (if shares.getD k.toNat 0 > 0 then hues.getD k.toNat 0 % 48 * 1000 else 0)) := ⟨by decide, by decide, rfl⟩
    have t1 : (0 : Int) ≤ 1 ∧ (1 : Int) < 2 ^ 63 ∧ (due3 hues shares tops k)[(1 : Int).toNat]? = some (.int (shares.getD k.toNat 0)) := ⟨by decide, by decide, rfl⟩
    have t2 : (0 : Int) ≤ 2 ∧ (2 : Int) < 2 ^ 63 ∧ (due3 hues shares tops k)[(2 : Int).toNat]? = some (.int (tops.getD k.toNat 0 * 1000)) := ⟨by decide, by decide, rfl⟩
    refine EV.call (aG B.painted.glb ⟨by decide +kernel⟩) B.painted.at_.callee
      (bS (st₁ := st) (d := .int (paintA hues shares tops ring k)) ?hA (bS (st₁ := st) (bItem (st₁ := st) (bItem (st₁ := st) (bN (by walk_at "go") ⟨by decide +kernel⟩) (bN (by walk_at "go") ⟨by decide +kernel⟩) (bLit iD ⟨by intro _ _; rfl⟩)) bI (bLit t1 ⟨by intro _ _; rfl⟩)) (bS (st₁ := st) (bItem (st₁ := st) (bItem (st₁ := st) (bN (by walk_at "go") ⟨by decide +kernel⟩) (bN (by walk_at "go") ⟨by decide +kernel⟩) (bLit iD ⟨by intro _ _; rfl⟩)) bI (bLit t2 ⟨by intro _ _; rfl⟩)) .nil ⟨fun _ => rfl⟩) ⟨fun _ => rfl⟩) ⟨fun _ => rfl⟩) (c_painted (n := n + 7) B (hp k hk))
    case hA =>
      refine bBin (st₁ := st) (bItem (st₁ := st) (bItem (st₁ := st) (bN (by walk_at "go") ⟨by decide +kernel⟩) (bN (by walk_at "go") ⟨by decide +kernel⟩) (bLit iD ⟨by intro _ _; rfl⟩)) bI (bLit t0 ⟨by intro _ _; rfl⟩)) (bItem (st₁ := st) (bL (bS bI (bS bI (bS bI .nil ⟨fun _ => rfl⟩) ⟨fun _ => rfl⟩) ⟨fun _ => rfl⟩) ⟨by decide⟩) (bItem (st₁ := st) (bN (by walk_at "go") ⟨by decide +kernel⟩) (bN (by walk_at "go") ⟨by decide +kernel⟩) (bLit ir ⟨by intro _ _; rfl⟩)) (bLit (stepItem hrg) ⟨by intro _ _; rfl⟩)) ⟨op_add⟩
  case hK =>
    refine aSetC (d := dI (ledF hues ring)) (st₁ := st) ?hLed (by walk_at "go") ?hr2
    case hr2 => exact hr
    case hLed =>
      refine EV.mapIB ["hues", "ring"] (zs 0 5) D.int (fun k => hues.getD k.toNat 0 + step3 24 ring k) (by walk_at "go"; decide) (.cons (by walk_at "go") (.cons (by walk_at "go") .nil)) ?hEl (by decide)
      case hEl =>
        intro k hk
        have hk5 : 0 ≤ k ∧ k < 5 := by obtain ⟨i, hi, rfl⟩ := mem_zs hk; omega
        have ir := itemI (l := ring) (k := k) hk5.1 (by omega) (by omega)
        have ih := itemI (l := hues) (k := k) hk5.1 (by omega) (by omega)
        refine bBin (st₁ := st) (bItem (st₁ := st) (bN (by walk_at "go") ⟨by decide +kernel⟩) (bN (by walk_at "go") ⟨by decide +kernel⟩) (bLit ih ⟨by intro _ _; rfl⟩)) (bItem (st₁ := st) (bL (bS bI (bS bI (bS bI .nil ⟨fun _ => rfl⟩) ⟨fun _ => rfl⟩) ⟨fun _ => rfl⟩) ⟨by decide⟩) (bItem (st₁ := st) (bN (by walk_at "go") ⟨by decide +kernel⟩) (bN (by walk_at "go") ⟨by decide +kernel⟩) (bLit ir ⟨by intro _ _; rfl⟩)) (bLit (stepItem hrg) ⟨by intro _ _; rfl⟩)) ⟨op_add⟩
set_option maxHeartbeats 1000000 in
theorem law_ledIf {SG LX : Addr} {script places looks hues tops shares coming counters ring led : List Int} {words : List (List Nat)} {told : List (List Int)} {o : Out W.σ} (B : Base hS) (l1 : led.length = 5) (l2 : shares.length = 5) (l3 : tops.length = 5) (ms : ∀ x ∈ shares, 0 ≤ x ∧ x ≤ 1000) (mt : ∀ x ∈ tops, 0 ≤ x ∧ x ≤ 32)
    (hpy : isPy (dS (wordsF led shares tops)) = true) (ht : ∀ p ∈ wordsF led shares tops, told3 p = true) (htd : (wordsF led shares tops).map toldW = dueF led shares tops)
    (hr : EX prog w (n + 9) W lwS lwV (lwG script places looks hues tops shares words told coming counters ring (wordsF led shares tops) led SG LX) st (lwB.drop 22) o) :
    EX prog w (n + 9) W lwS lwV (lwG script places looks hues tops shares words told coming counters ring (wordsF led shares tops) led SG LX) st (lwB.drop 20) o := by
  have g1 := B.range
  refine aIf (b := false) (st₁ := st) ?hT1 (fun h => by cases h) (fun _ => ?hK1)
  case hT1 =>
    refine tC (d1 := dS (wordsF led shares tops)) (d2 := dS (wordsF led shares tops)) (st₁ := st) (aN (by walk_at "go") ⟨by decide +kernel⟩) ?hRw (op_dneS hpy rfl (dS_depth' _)) ⟨rfl⟩
    case hRw =>
      have e : dS (wordsF led shares tops) = .list ((zs 0 5).map fun k => .str (S (wordF (led.getD k.toNat 0) (shares.getD k.toNat 0) (tops.getD k.toNat 0)))) := by
        rw [show wordsF led shares tops = (zs 0 5).map fun k => wordF (led.getD k.toNat 0) (shares.getD k.toNat 0) (tops.getD k.toNat 0) from rfl, ← dS_map]
      rw [e]
      refine EV.map ["led", "shares", "tops"] (zs 0 5) D.int (fun k => .str (S (wordF (led.getD k.toNat 0) (shares.getD k.toNat 0) (tops.getD k.toNat 0)))) (by walk_at "go"; decide) (.cons (by walk_at "go") (.cons (by walk_at "go") (.cons (by walk_at "go") .nil))) ?hEl6 (by decide)
      case hEl6 =>
        intro k hk
        have hk5 : 0 ≤ k ∧ k < 5 := by obtain ⟨i, hi, rfl⟩ := mem_zs hk; omega
        have ih := itemI (l := led) (k := k) hk5.1 (by omega) (by omega)
        have is := itemI (l := shares) (k := k) hk5.1 (by omega) (by omega)
        have it := itemI (l := tops) (k := k) hk5.1 (by omega) (by omega)
        refine EV.call (aG B.word.glb ⟨by decide +kernel⟩) B.word.at_.callee (bS (st₁ := st) (bItem (st₁ := st) (bN (by walk_at "go") ⟨by decide +kernel⟩) (bN (by walk_at "go") ⟨by decide +kernel⟩) (bLit ih ⟨by intro _ _; rfl⟩)) (bS (st₁ := st) (bItem (st₁ := st) (bN (by walk_at "go") ⟨by decide +kernel⟩) (bN (by walk_at "go") ⟨by decide +kernel⟩) (bLit is ⟨by intro _ _; rfl⟩)) (bS (st₁ := st) (bItem (st₁ := st) (bN (by walk_at "go") ⟨by decide +kernel⟩) (bN (by walk_at "go") ⟨by decide +kernel⟩) (bLit it ⟨by intro _ _; rfl⟩)) .nil ⟨fun _ => rfl⟩) ⟨fun _ => rfl⟩) ⟨fun _ => rfl⟩) (c_word (n := n + 8) B (getD_all ms ⟨by decide, by decide⟩) (getD_all mt ⟨by decide, by decide⟩))
  case hK1 =>
    show EX _ _ _ _ _ _ _ _ ([] ++ lwB.drop 21) _
    refine aIf (b := false) (st₁ := st) ?hT2 (fun h => by cases h) (fun _ => ?hK2)
    case hK2 =>
      show EX _ _ _ _ _ _ _ _ ([] ++ lwB.drop 22) _
      exact hr
    case hT2 =>
      refine tC (d1 := dLL (dueF led shares tops)) (d2 := dLL (dueF led shares tops)) (st₁ := st) ?hLw ?hRw2 (op_dneS (isPy_dLL _) rfl (depth_dLL' _)) ⟨rfl⟩
      case hRw2 => exact EV.call (aG B.due.glb ⟨by decide +kernel⟩) B.due.at_.callee (aS (st₁ := st) (aN (by walk_at "go") ⟨by decide +kernel⟩) (aS (st₁ := st) (aN (by walk_at "go") ⟨by decide +kernel⟩) (aS (st₁ := st) (aN (by walk_at "go") ⟨by decide +kernel⟩) .nil ⟨fun _ => rfl⟩) ⟨fun _ => rfl⟩) ⟨fun _ => rfl⟩) (c_due (n := n + 7) B l1 l2 l3 (fun x hx => by have := mt x hx; omega))
      case hLw =>
        have e : dLL (dueF led shares tops) = .list ((wordsF led shares tops).map fun p => dI (toldW p)) := by
          rw [← htd]; unfold dLL; rw [List.map_map]; rfl
        rw [e]
        refine EV.map [] (wordsF led shares tops) (fun p => .str (S p)) (fun p => dI (toldW p)) ?hSr .nil ?hEl7 ?hZ
        case hSr =>
          have ha : At lwV (lwG script places looks hues tops shares words told coming counters ring (wordsF led shares tops) led SG LX) (Str.ofString "after") (dS (wordsF led shares tops)) := by walk_at "go"
          exact EVit.list (aN ha ⟨by decide +kernel⟩)
        case hZ => simp [wordsF, zs]
        case hEl7 =>
          intro p hp
          exact EV.call (aG B.told.glb ⟨by decide +kernel⟩) B.told.at_.callee (aS (st₁ := st) (aN (by walk_at "go") ⟨by decide +kernel⟩) .nil ⟨fun _ => rfl⟩) (c_toldW (n := n + 7) B (ht p hp))
end
end
section
theorem sumI_eq (l : List Int) : sumI l = l.sum := by
  unfold sumI
  have h : ∀ (l : List Int) (z : Int), l.foldl (· + ·) z = z + l.sum := by
    intro l
    induction l with
    | nil => intro z; simp
    | cons x l ih => intro z; simp only [List.foldl_cons, List.sum_cons, ih]; omega
  rw [h]; omega
theorem mem_masks {way : List Int} (h : way ∈ masksF) : way.length = 5 ∧ ∀ x ∈ way, 0 ≤ x ∧ x ≤ 1 := by
  obtain ⟨m, _, rfl⟩ := List.mem_map.mp h
  refine ⟨by simp [zs], fun x hx => ?_⟩
  obtain ⟨k, _, rfl⟩ := List.mem_map.mp hx
  omega
theorem mem_ways {coming way : List Int} (h : way ∈ waysF coming) : way.length = 5 ∧ ∀ x ∈ way, 0 ≤ x ∧ x ≤ 1 := mem_masks (List.mem_filter.mp h).1
theorem len_ways (coming : List Int) : (waysF coming).length ≤ 1000000 := by
  refine Nat.le_trans (List.length_filter_le _ _) ?_
  simp [masksF, zs]
section
variable {hS : Heap} {prog : Program} {w : World} {n : Nat}
variable {W : Wd hS} {st : W.σ}
noncomputable abbrev lwH (script places looks hues tops shares : List Int) (words : List (List Nat)) (told : List (List Int)) (coming counters ring : List Int) (after : List (List Nat)) (led : List Int) (SG LX : Addr) : List (Option D) := [some (dI script), some (.tuple [.int 768265, .int 617022, .int 1939659]), some (dI (heapsL script)), some (dI places), some (dI looks), some (dI hues), some (dI tops), some (dI shares), some (dS words), some (.raw (.ref SG)), some (.raw (.ref LX)), some (rowD words), some (dLL told), some (dI coming), some (dI counters), some (dI ring), some (dS after), some (dI led), some (dLL masksF), some (dLL (waysF coming)), none, none, none]
noncomputable abbrev lwI (script places looks hues tops shares : List Int) (words : List (List Nat)) (told : List (List Int)) (coming counters ring : List Int) (after : List (List Nat)) (led : List Int) (taken : List Bool) (SG LX : Addr) : List (Option D) := [some (dI script), some (.tuple [.int 768265, .int 617022, .int 1939659]), some (dI (heapsL script)), some (dI places), some (dI looks), some (dI hues), some (dI tops), some (dI shares), some (dS words), some (.raw (.ref SG)), some (.raw (.ref LX)), some (rowD words), some (dLL told), some (dI coming), some (dI counters), some (dI ring), some (dS after), some (dI led), some (dLL masksF), some (dLL (waysF coming)), some (dB taken), none, none]
set_option maxHeartbeats 1000000 in
theorem law_ways {SG LX : Addr} {script places looks hues tops shares coming counters ring led : List Int} {words after : List (List Nat)} {told : List (List Int)} {o : Out W.σ} (B : Base hS)
    (hr : EX prog w (n + 9) W lwS lwV (lwH script places looks hues tops shares words told coming counters ring after led SG LX) st (lwB.drop 24) o) :
    EX prog w (n + 9) W lwS lwV (lwG script places looks hues tops shares words told coming counters ring after led SG LX) st (lwB.drop 22) o := by
  have g1 := B.range; have g2 := B.sum
  refine aSetM [] (zs 0 32) D.int (fun m => dI ((zs 0 5).map fun k => m / 2 ^ k.toNat % 2)) (by walk_at "go"; decide) .nil ?hE (by walk_at "go") ?hK (by decide)
  case hE =>
    intro m hm
    have hm5 : 0 ≤ m ∧ m < 32 := by obtain ⟨i, hi, rfl⟩ := mem_zs hm; omega
    refine EV.mapI ["mask"] (zs 0 5) D.int (fun k => m / 2 ^ k.toNat % 2) (by walk_at "go"; decide) (.cons (by walk_at "go") .nil) ?hEl (by decide)
    case hEl =>
      intro k hk
      have hk5 : k = 0 ∨ k = 1 ∨ k = 2 ∨ k = 3 ∨ k = 4 := by obtain ⟨i, hi, rfl⟩ := mem_zs hk; omega
      walk_at "go"
      all_goals first | decide | omega | skip
      all_goals rcases hk5 with rfl | rfl | rfl | rfl | rfl <;> decide
  case hK =>
    have em : D.list ((zs 0 32).map fun m => dI ((zs 0 5).map fun k => m / 2 ^ k.toNat % 2)) = dLL masksF := by
      unfold dLL masksF; rw [List.map_map]; rfl
    rw [em]
    refine aSetC (d := dLL (waysF coming)) (st₁ := st) ?hW (by walk_at "go") ?hr2
    case hr2 => exact hr
    case hW =>
      refine EV.filt ["coming"] masksF dI dI (fun way => sumI way == sumI coming) ?hSrc (.cons (by walk_at "go") .nil) ?hT ?hEl2 (by simp [masksF, zs])
      case hSrc => exact EVit.list (aN (by walk_at "go") ⟨by decide +kernel⟩)
      case hEl2 =>
        intro way hw _
        exact aN (by walk_at "go") ⟨by decide +kernel⟩
      case hT =>
        intro way hw
        rw [sumI_eq, sumI_eq]
        exact tC (st₁ := st) (EV.call (st₁ := st) (aB g2 ⟨by decide +kernel⟩) (.builtin _) (aS (st₁ := st) (aN (by walk_at "go") ⟨by decide +kernel⟩) .nil ⟨fun _ => rfl⟩) op_sum) (EV.call (st₁ := st) (aB g2 ⟨by decide +kernel⟩) (.builtin _) (aS (st₁ := st) (aN (by walk_at "go") ⟨by decide +kernel⟩) .nil ⟨fun _ => rfl⟩) op_sum) op_eq ⟨rfl⟩
end
section
variable {hS : Heap} {prog : Program} {w : World} {m : Nat}
theorem law_taken {W : Wd hS} {st : W.σ} {SG LX : Addr} {script places looks hues tops shares coming counters ring led : List Int} {words after : List (List Nat)} {told : List (List Int)} {o : Out W.σ} (B : Base hS) (l4 : ring.length = 5) (hrg : ∀ x ∈ ring, 0 ≤ x ∧ x ≤ 2) (h1 : 1 ∈ ring) (hly : (PyData.list (List.map PyData.int ring)).layable0 = true)
    (htk : ∀ way ∈ waysF coming, takesOk ring way = true)
    (hr : EX prog w (m + 12) W lwS lwV (lwI script places looks hues tops shares words told coming counters ring after led ((waysF coming).map fun way => takesF ring way) SG LX) st (lwB.drop 25) o) :
    EX prog w (m + 12) W lwS lwV (lwH script places looks hues tops shares words told coming counters ring after led SG LX) st (lwB.drop 24) o := by
  refine aSetM ["ring"] (waysF coming) dI (fun way => .bool (takesF ring way)) ?hSrc (.cons (by walk_at "go") .nil) ?hE (by walk_at "go") ?hK (len_ways coming)
  case hSrc => exact EVit.list (aN (by walk_at "go") ⟨by decide +kernel⟩)
  case hE =>
    intro way hw
    obtain ⟨e1, e2⟩ := mem_ways hw
    exact EV.call (aG B.takes.glb ⟨by decide +kernel⟩) B.takes.at_.callee (aS (st₁ := st) (aN (by walk_at "go") ⟨by decide +kernel⟩) (aS (st₁ := st) (aN (by walk_at "go") ⟨by decide +kernel⟩) .nil ⟨fun _ => rfl⟩) ⟨fun _ => rfl⟩) (c_takes (m := m) B ⟨l4, e1, hrg, e2⟩ h1 hly (htk way hw))
  case hK =>
    have em : D.list ((waysF coming).map fun way => .bool (takesF ring way)) = dB ((waysF coming).map fun way => takesF ring way) := by
      unfold dB; rw [List.map_map]; rfl
    rw [em]
    exact hr
end
end
section
theorem isPys_bools : ∀ l : List Bool, isPys (l.map D.bool) = true
  | [] => rfl
  | x :: l => by simp only [List.map_cons, isPys, isPy, isPys_bools l, Bool.and_self]
theorem depthAll_bools : ∀ a : List Bool, PyData.depthAll (pys (a.map .bool)) = 0
  | [] => rfl
  | x :: a => by simp only [List.map_cons, pys, py, PyData.depthAll, PyData.depth, depthAll_bools a]; rfl
theorem dB_depth (l : List Bool) : (py (dB l)).depth ≤ 30 := by
  have := depthAll_bools l
  show (py (D.list (l.map D.bool))).depth ≤ 30
  simp only [py, PyData.depth] at this ⊢
  omega
structure WayOk (coming counters ring : List Int) : Prop where
  l1 : counters.length = 5
  l4 : ring.length = 5
  hrg : ∀ x ∈ ring, 0 ≤ x ∧ x ≤ 2
  line : ∀ way ∈ waysF coming, (lnAll way counters x3).1 = x3
  same : ∀ way ∈ waysF coming, takesF ring way = (lineF way counters x3 == ring)
  upL : ∀ k ∈ upsK ring, (changedF ring k).length = 5
  upR : ∀ k ∈ upsK ring, ∀ x ∈ changedF ring k, 0 ≤ x ∧ x ≤ 2
  up1 : ∀ k ∈ upsK ring, 1 ∈ changedF ring k
  upY : ∀ k ∈ upsK ring, (PyData.list (List.map PyData.int (changedF ring k))).layable0 = true
  upT : ∀ k ∈ upsK ring, ∀ way ∈ waysF coming, takesOk (changedF ring k) way = true
  sum : (((upsK ring).map fun k => (((((waysF coming).map fun way => takesF (changedF ring k) way).count true : Nat)) : Int)).sum == ((downsK ring).length : Int) * (((((waysF coming).map fun way => takesF ring way).count true : Nat)) : Int)) = true
section
variable {hS : Heap} {prog : Program} {w : World} {n : Nat}
variable {a : LA} {ok : LA.Ok hS a}
set_option maxHeartbeats 1000000 in
theorem law_takenIf {script places looks hues tops shares coming counters ring led : List Int} {words after : List (List Nat)} {told : List (List Int)} {o : Out Lx} (B : Base hS) (L : LexBase hS) (O : WayOk coming counters ring)
    (hr : EX prog w (n + 9) (lexW hS a ok) lwS lwV (lwI script places looks hues tops shares words told coming counters ring after led ((waysF coming).map fun way => takesF ring way) a.SG a.LX) x3 (lwB.drop 26) o) :
    EX prog w (n + 9) (lexW hS a ok) lwS lwV (lwI script places looks hues tops shares words told coming counters ring after led ((waysF coming).map fun way => takesF ring way) a.SG a.LX) x3 (lwB.drop 25) o := by
  refine aIf (b := (false || (x3.line != 3))) (st₁ := x3) (ET.or (st₁ := x3) ?hT1 (fun _ => ?hT2) (fun h => by cases h)) (fun h => absurd h (by decide)) (fun _ => ?hK1)
  case hK1 =>
    show EX _ _ _ _ _ _ _ _ ([] ++ lwB.drop 26) _
    exact hr
  case hT2 => exact tC (st₁ := x3) (EV.attrW (st₁ := x3) (aN (by walk_at "go") ⟨by decide +kernel⟩) (attr_line (ok := ok) L)) (EV.int 3) op_ne ⟨rfl⟩
  case hT1 =>
    refine tC (d1 := dB ((waysF coming).map fun way => takesF ring way)) (d2 := .list ((waysF coming).map fun way => .bool (lineF way counters x3 == ring))) (st₁ := x3) (aN (by walk_at "go") ⟨by decide +kernel⟩) ?hRw (op_dneS (isPys_bools _) ?hEq (dB_depth _)) ⟨rfl⟩
    case hEq =>
      unfold dB
      rw [List.map_map]
      refine congrArg D.list (List.map_congr_left fun way hw => ?_)
      show D.bool (takesF ring way) = _
      rw [O.same way hw]
    case hRw =>
      refine EV.map ["counters", "lexer", "ring"] (waysF coming) dI (fun way => .bool (lineF way counters x3 == ring)) ?hSrc (.cons (by walk_at "go") (.cons (by walk_at "go") (.cons (by walk_at "go") .nil))) ?hEl (len_ways coming)
      case hSrc => exact EVit.list (aN (by walk_at "go") ⟨by decide +kernel⟩)
      case hEl =>
        intro way hw
        obtain ⟨e1, e2⟩ := mem_ways hw
        refine aC (W := lexW hS a ok) (st₁ := x3) (st₂ := x3) (d1 := dI (lineF way counters x3)) (d2 := dI ring) (EV.callW (W := lexW hS a ok) (st₁ := x3) (st₂ := x3) (aG B.line.glb ⟨by decide +kernel⟩) B.line.at_.callee (aS (st₁ := x3) (aN (by walk_at "go") ⟨by decide +kernel⟩) (aS (st₁ := x3) (aN (by walk_at "go") ⟨by decide +kernel⟩) (aS (st₁ := x3) (aN (by walk_at "go") ⟨by decide +kernel⟩) .nil ⟨fun _ => rfl⟩) ⟨fun _ => rfl⟩) ⟨fun _ => rfl⟩) ?hOp) (aN (by walk_at "go") ⟨by decide +kernel⟩) op_ieq ⟨rfl⟩
        case hOp =>
          have := c_line (prog := prog) (w := w) (n := n + 3) (a := a) (ok := ok) B L (x := x3) e1 O.l1 rfl rfl
          rw [O.line way hw] at this
          exact this
end
section
variable {hS : Heap} {prog : Program} {w : World} {m : Nat}
variable {W : Wd hS} {st : W.σ}
noncomputable abbrev lwJ (script places looks hues tops shares : List Int) (words : List (List Nat)) (told : List (List Int)) (coming counters ring : List Int) (after : List (List Nat)) (led : List Int) (taken : List Bool) (SG LX : Addr) : List (Option D) := [some (dI script), some (.tuple [.int 768265, .int 617022, .int 1939659]), some (dI (heapsL script)), some (dI places), some (dI looks), some (dI hues), some (dI tops), some (dI shares), some (dS words), some (.raw (.ref SG)), some (.raw (.ref LX)), some (rowD words), some (dLL told), some (dI coming), some (dI counters), some (dI ring), some (dS after), some (dI led), some (dLL masksF), some (dLL (waysF coming)), some (dB taken), none, none]
noncomputable abbrev lwK (script places looks hues tops shares : List Int) (words : List (List Nat)) (told : List (List Int)) (coming counters ring : List Int) (after : List (List Nat)) (led : List Int) (taken : List Bool) (SG LX : Addr) : List (Option D) := [some (dI script), some (.tuple [.int 768265, .int 617022, .int 1939659]), some (dI (heapsL script)), some (dI places), some (dI looks), some (dI hues), some (dI tops), some (dI shares), some (dS words), some (.raw (.ref SG)), some (.raw (.ref LX)), some (rowD words), some (dLL told), some (dI coming), some (dI counters), some (dI ring), some (dS after), some (dI led), some (dLL masksF), some (dLL (waysF coming)), some (dB taken), some (.list ((upsK ring).map fun k => dI (changedF ring k))), none]
set_option maxHeartbeats 1000000 in
theorem law_end {SG LX : Addr} {script places looks hues tops shares coming counters ring led : List Int} {words after : List (List Nat)} {told : List (List Int)} (B : Base hS) (O : WayOk coming counters ring) :
    EX prog w (m + 12) W lwS lwV (lwI script places looks hues tops shares words told coming counters ring after led ((waysF coming).map fun way => takesF ring way) SG LX) st (lwB.drop 26) (.ret (.bool true) st) := by
  have g1 := B.range; have g2 := B.sum; have g3 := B.len
  have l4 := O.l4
  refine aSetF ["ring"] (zs 0 5) D.int (fun k => dI (changedF ring k)) (fun k => decide (ring.getD k.toNat 0 < ring.getD ((k + 1) % 5).toNat 0)) (by walk_at "go"; decide) (.cons (by walk_at "go") .nil) ?hT ?hE (by walk_at "go") ?hK (by decide)
  case hT =>
    intro k hk
    have hk5 : 0 ≤ k ∧ k < 5 := by obtain ⟨i, hi, rfl⟩ := mem_zs hk; omega
    have ir := itemI (l := ring) (k := k) hk5.1 (by omega) (by omega)
    have ir2 := itemI (l := ring) (k := (k + 1) % 5) (by omega) (by omega) (by omega)
    refine tC (st₁ := st) (bItem (st₁ := st) (bN (by walk_at "go") ⟨by decide +kernel⟩) (bN (by walk_at "go") ⟨by decide +kernel⟩) (bLit ir ⟨by intro _ _; rfl⟩)).h (bItem (st₁ := st) (bN (by walk_at "go") ⟨by decide +kernel⟩) (bBin (st₁ := st) (bBin (st₁ := st) (bN (by walk_at "go") ⟨by decide +kernel⟩) bI ⟨op_add⟩) bI ⟨oMod (by decide)⟩) (bLit ir2 ⟨by intro _ _; rfl⟩)).h op_lt ⟨rfl⟩
  case hE =>
    intro k hk _
    have hk5 : 0 ≤ k ∧ k < 5 := by obtain ⟨i, hi, rfl⟩ := mem_zs hk; omega
    exact EV.call (aG B.changed.glb ⟨by decide +kernel⟩) B.changed.at_.callee (aS (st₁ := st) (aN (by walk_at "go") ⟨by decide +kernel⟩) (aS (st₁ := st) (aN (by walk_at "go") ⟨by decide +kernel⟩) .nil ⟨fun _ => rfl⟩) ⟨fun _ => rfl⟩) (c_changed (n := m + 11) B l4 hk5)
  case hK =>
    refine aSet (d := .int ((downsK ring).length : Int)) (st₁ := st) ?hD (by walk_at "go") ?hK2 ⟨by decide +kernel⟩ ⟨fun _ _ => rfl⟩
    case hD =>
      have eL : D.int ((downsK ring).length : Int) = .int (((((downsK ring).map D.int).length : Nat)) : Int) := by rw [List.length_map]
      rw [eL]
      refine EV.call (st₁ := st) (aB g3 ⟨by decide +kernel⟩) (.builtin _) (aS (st₁ := st) (d := .list ((downsK ring).map D.int)) ?hC .nil ⟨fun _ => rfl⟩) (op_len ?hLn)
      case hLn =>
        rw [List.length_map]
        refine Nat.lt_of_le_of_lt (List.length_filter_le _ _) ?_
        simp [zs]
      case hC =>
        refine EV.filt ["ring"] (zs 0 5) D.int D.int (fun k => decide (ring.getD k.toNat 0 > ring.getD ((k + 1) % 5).toNat 0)) (by walk_at "go"; decide) (.cons (by walk_at "go") .nil) ?hT2 ?hE2 (by decide)
        case hE2 =>
          intro k _ _
          exact aN (by walk_at "go") ⟨by decide +kernel⟩
        case hT2 =>
          intro k hk
          have hk5 : 0 ≤ k ∧ k < 5 := by obtain ⟨i, hi, rfl⟩ := mem_zs hk; omega
          have ir := itemI (l := ring) (k := k) hk5.1 (by omega) (by omega)
          have ir2 := itemI (l := ring) (k := (k + 1) % 5) (by omega) (by omega) (by omega)
          refine tC (st₁ := st) (bItem (st₁ := st) (bN (by walk_at "go") ⟨by decide +kernel⟩) (bN (by walk_at "go") ⟨by decide +kernel⟩) (bLit ir ⟨by intro _ _; rfl⟩)).h (bItem (st₁ := st) (bN (by walk_at "go") ⟨by decide +kernel⟩) (bBin (st₁ := st) (bBin (st₁ := st) (bN (by walk_at "go") ⟨by decide +kernel⟩) bI ⟨op_add⟩) bI ⟨oMod (by decide)⟩) (bLit ir2 ⟨by intro _ _; rfl⟩)).h op_gt ⟨rfl⟩
    case hK2 =>
      refine aRet (d := .bool (((upsK ring).map fun k => (((((waysF coming).map fun way => takesF (changedF ring k) way).count true : Nat)) : Int)).sum == ((downsK ring).length : Int) * (((((waysF coming).map fun way => takesF ring way).count true : Nat)) : Int))) (st₁ := st) ?hV (congrArg D.bool O.sum)
      case hV =>
        refine aC (st₁ := st) (EV.call (st₁ := st) (aB g2 ⟨by decide +kernel⟩) (.builtin _) (aS (st₁ := st) (d := dI ((upsK ring).map fun k => (((((waysF coming).map fun way => takesF (changedF ring k) way).count true : Nat)) : Int))) ?hS1 .nil ⟨fun _ => rfl⟩) op_sum)
          (aBin (st₁ := st) (aN (by walk_at "go") ⟨by decide +kernel⟩) (aMeth (st₁ := st) (d0 := dB ((waysF coming).map fun way => takesF ring way)) (aN (by walk_at "go") ⟨by decide +kernel⟩) meth_count (aS (st₁ := st) (EV.boolC true) .nil ⟨fun _ => rfl⟩) op_countb ⟨by intros; with_unfolding_all rfl⟩) (oMul ?hM)) op_eq ⟨rfl⟩
        case hM =>
          have : (downsK ring).length ≤ 5 := Nat.le_trans (List.length_filter_le _ _) (by simp [zs])
          omega
        case hS1 =>
          refine EV.mapI ["ways"] (upsK ring) (fun k => dI (changedF ring k)) (fun k => (((((waysF coming).map fun way => takesF (changedF ring k) way).count true : Nat)) : Int)) ?hSrc (.cons (by walk_at "go") .nil) ?hEl ?hZ
          case hZ => exact Nat.le_trans (List.length_filter_le _ _) (by simp [zs])
          case hSrc =>
            unfold upsK
            exact EVit.list (aN (by walk_at "go") ⟨by decide +kernel⟩)
          case hEl =>
            intro k hk
            refine aMeth (st₁ := st) (d0 := dB ((waysF coming).map fun way => takesF (changedF ring k) way)) ?hIn meth_count (aS (st₁ := st) (EV.boolC true) .nil ⟨fun _ => rfl⟩) op_countb ⟨by intros; with_unfolding_all rfl⟩
            case hIn =>
              have em : dB ((waysF coming).map fun way => takesF (changedF ring k) way) = D.list ((waysF coming).map fun way => .bool (takesF (changedF ring k) way)) := by
                unfold dB; rw [List.map_map]; rfl
              rw [em]
              refine EV.map ["other"] (waysF coming) dI (fun way => .bool (takesF (changedF ring k) way)) ?hSr3 (.cons (by walk_at "go") .nil) ?hE3 (len_ways coming)
              case hSr3 => exact EVit.list (aN (by walk_at "go") ⟨by decide +kernel⟩)
              case hE3 =>
                intro way hw
                obtain ⟨e1, e2⟩ := mem_ways hw
                exact EV.call (aG B.takes.glb ⟨by decide +kernel⟩) B.takes.at_.callee (aS (st₁ := st) (aN (by walk_at "go") ⟨by decide +kernel⟩) (aS (st₁ := st) (aN (by walk_at "go") ⟨by decide +kernel⟩) .nil ⟨fun _ => rfl⟩) ⟨fun _ => rfl⟩) (c_takes (m := m) B ⟨O.upL k hk, e1, O.upR k hk, e2⟩ (O.up1 k hk) (O.upY k hk) (O.upT k hk way hw))
end
end
section
noncomputable def Pl (c : Nat) : Prop := 48 ≤ c ∧ c ≤ 80
theorem pl_tab : ∀ c ∈ List.range 81, 48 ≤ c → hasS lexWs [c] = false := by decide +kernel
theorem Pl.ws {c : Nat} (h : Pl c) : hasS lexWs [c] = false := pl_tab c (List.mem_range.mpr (by have := h.2; omega)) h.1
theorem Pl.adv {c : Nat} (h : Pl c) {n : Int} : adv n c = n := by unfold Mine.adv; rw [if_neg (by have := h.1; omega)]
theorem Pl.ne {c : Nat} (h : Pl c) : c ≠ 34 ∧ c ≠ 92 := ⟨by have := h.1; omega, by have := h.2; omega⟩
theorem Pl.stop {c : Nat} (h : Pl c) (q : Bool) : ¬ stopT q c = true := by
  unfold stopT
  cases q
  · simp [h.ws]
  · simp [h.ne.1]
theorem adv92 {n : Int} : adv n 92 = n := rfl
theorem adv34 {n : Int} : adv n 34 = n := rfl
theorem st92 (q : Bool) : ¬ stopT q 92 = true := by cases q <;> decide +kernel
theorem in_plain {q : Bool} {n : Int} {t : List Nat} {c : Nat} {l : List Nat} (h : Pl c) : inT q n t (c :: l) = inT q n (t ++ [c]) l := by
  rw [inT_plain (h.stop q) h.ne.2, h.adv]
theorem in_esc {q : Bool} {n : Int} {t : List Nat} {c : Nat} {l : List Nat} (h : Pl c) : inT q n t (92 :: c :: l) = inT q n (t ++ [c]) l := by
  rw [inT_esc (st92 q), adv92, h.adv]
theorem in_quo {n : Int} {t : List Nat} {l : List Nat} : inT true n t (34 :: l) = ⟨t, n, l, true⟩ := by
  rw [inT_stop (by decide), adv34]
theorem in_ws {n : Int} {t : List Nat} {c : Nat} {l : List Nat} (h : hasS lexWs [c] = true) : inT false n t (c :: l) = ⟨t, adv n c, l, true⟩ := inT_stop h
theorem out_ws {n : Int} {c : Nat} {l : List Nat} (h : hasS lexWs [c] = true) : outT n (c :: l) = outT (adv n c) l := by
  cases l <;> simp [outT, h]
theorem w34 : hasS lexWs [34] = false := by decide +kernel
theorem w92 : hasS lexWs [92] = false := by decide +kernel
theorem out_plain {n : Int} {c : Nat} {l : List Nat} (h : Pl c) : outT n (c :: l) = inT false n [c] l := by
  cases l <;> simp [outT, h.ws, h.ne.1, h.ne.2, h.adv]
theorem out_quo {n : Int} {l : List Nat} : outT n (34 :: l) = inT true n [] l := by
  cases l <;> simp [outT, w34, adv34]
theorem out_esc {n : Int} {c : Nat} {l : List Nat} (h : Pl c) : outT n (92 :: c :: l) = inT false n [c] l := by
  simp [outT, w92, adv92, h.adv]
theorem tok_of {n : Int} {l : List Nat} {r : Tk} (h : outT n l = r) : tokR ⟨n, [], l⟩ = (r.tok, ⟨r.line, [], r.sg⟩) := by
  show ((outT n l).tok, lxOf ⟨n, [], l⟩ (outT n l)) = _
  rw [h]
  rfl
section
variable {a b c s : Nat} {n : Int} {l : List Nat} (ha : Pl a) (hb : Pl b) (hc : Pl c)
include ha hb hc
theorem tok_bare (hs : hasS lexWs [s] = true) : tokR ⟨n, [], a :: b :: c :: s :: l⟩ = ([a, b, c], ⟨adv n s, [], l⟩) :=
  tok_of (r := ⟨[a, b, c], adv n s, l, true⟩) (by rw [out_plain ha, in_plain hb, in_plain hc, in_ws hs]; first | done | rfl)
theorem tok_quo : tokR ⟨n, [], 34 :: a :: 92 :: b :: 92 :: c :: 34 :: l⟩ = ([a, b, c], ⟨n, [], l⟩) :=
  tok_of (r := ⟨[a, b, c], n, l, true⟩) (by rw [out_quo, in_plain ha, in_esc hb, in_esc hc, in_quo]; first | done | rfl)
theorem tok_esc (hs : hasS lexWs [s] = true) : tokR ⟨n, [], 92 :: a :: 92 :: b :: 92 :: c :: s :: l⟩ = ([a, b, c], ⟨adv n s, [], l⟩) :=
  tok_of (r := ⟨[a, b, c], adv n s, l, true⟩) (by rw [out_esc ha, in_esc hb, in_esc hc, in_ws hs]; first | done | rfl)
end
theorem tok_ws {n : Int} {s : Nat} {l : List Nat} (h : hasS lexWs [s] = true) : tokR ⟨n, [], s :: l⟩ = tokR ⟨adv n s, [], l⟩ := by
  show ((outT n (s :: l)).tok, lxOf _ (outT n (s :: l))) = _
  rw [out_ws h]
  rfl
theorem w32 : hasS lexWs [32] = true := by decide +kernel
theorem w9 : hasS lexWs [9] = true := by decide +kernel
theorem w13 : hasS lexWs [13] = true := by decide +kernel
theorem w10 : hasS lexWs [10] = true := by decide +kernel
theorem strOk1 {c : Nat} (h : c ≤ 92) : isPy (.str (S [c])) = true := by
  simp [isPy, PyData.strOk, S]
  omega
theorem strOk3 {a b c : Nat} (ha : Pl a) (hb : Pl b) (hc : Pl c) : isPy (.str (S [a, b, c])) = true := by
  obtain ⟨_, h1⟩ := ha
  obtain ⟨_, h2⟩ := hb
  obtain ⟨_, h3⟩ := hc
  simp [isPy, PyData.strOk, S]
  omega
theorem isPys_dC : ∀ {l : List Nat}, (∀ c ∈ l, c ≤ 92) → isPys (dC l) = true
  | [], _ => rfl
  | c :: l, h => by
    simp only [dC, List.map_cons, isPys, Bool.and_eq_true]
    exact ⟨strOk1 (h c (by simp)), isPys_dC (l := l) fun x hx => h x (by simp [hx])⟩
theorem rowOk_of {a0 a1 a2 b0 b1 b2 c0 c1 c2 d0 d1 d2 e0 e1 e2 : Nat} (ha0 : Pl a0) (ha1 : Pl a1) (ha2 : Pl a2) (hb0 : Pl b0) (hb1 : Pl b1) (hb2 : Pl b2) (hc0 : Pl c0) (hc1 : Pl c1) (hc2 : Pl c2) (hd0 : Pl d0) (hd1 : Pl d1) (hd2 : Pl d2) (he0 : Pl e0) (he1 : Pl e1) (he2 : Pl e2) : RowOk [[a0, a1, a2], [b0, b1, b2], [c0, c1, c2], [d0, d1, d2], [e0, e1, e2]] := by
  have t0 : lexX [[a0, a1, a2], [b0, b1, b2], [c0, c1, c2], [d0, d1, d2], [e0, e1, e2]] 0 = ⟨1, [], a0 :: a1 :: a2 :: 32 :: 34 :: b0 :: 92 :: b1 :: 92 :: b2 :: 34 :: c0 :: c1 :: c2 :: 9 :: 13 :: 10 :: 92 :: d0 :: 92 :: d1 :: 92 :: d2 :: 13 :: 32 :: 9 :: 92 :: e0 :: 92 :: e1 :: 92 :: e2 :: 10 :: []⟩ := rfl
  have t1 : lexX [[a0, a1, a2], [b0, b1, b2], [c0, c1, c2], [d0, d1, d2], [e0, e1, e2]] 1 = ⟨1, [], 34 :: b0 :: 92 :: b1 :: 92 :: b2 :: 34 :: c0 :: c1 :: c2 :: 9 :: 13 :: 10 :: 92 :: d0 :: 92 :: d1 :: 92 :: d2 :: 13 :: 32 :: 9 :: 92 :: e0 :: 92 :: e1 :: 92 :: e2 :: 10 :: []⟩ := by
    show (tokR (lexX [[a0, a1, a2], [b0, b1, b2], [c0, c1, c2], [d0, d1, d2], [e0, e1, e2]] 0)).2 = _
    rw [t0, tok_bare ha0 ha1 ha2 w32]; try rfl
  have t2 : lexX [[a0, a1, a2], [b0, b1, b2], [c0, c1, c2], [d0, d1, d2], [e0, e1, e2]] 2 = ⟨1, [], c0 :: c1 :: c2 :: 9 :: 13 :: 10 :: 92 :: d0 :: 92 :: d1 :: 92 :: d2 :: 13 :: 32 :: 9 :: 92 :: e0 :: 92 :: e1 :: 92 :: e2 :: 10 :: []⟩ := by
    show (tokR (lexX [[a0, a1, a2], [b0, b1, b2], [c0, c1, c2], [d0, d1, d2], [e0, e1, e2]] 1)).2 = _
    rw [t1, tok_quo hb0 hb1 hb2]
  have t3 : lexX [[a0, a1, a2], [b0, b1, b2], [c0, c1, c2], [d0, d1, d2], [e0, e1, e2]] 3 = ⟨1, [], 13 :: 10 :: 92 :: d0 :: 92 :: d1 :: 92 :: d2 :: 13 :: 32 :: 9 :: 92 :: e0 :: 92 :: e1 :: 92 :: e2 :: 10 :: []⟩ := by
    show (tokR (lexX [[a0, a1, a2], [b0, b1, b2], [c0, c1, c2], [d0, d1, d2], [e0, e1, e2]] 2)).2 = _
    rw [t2, tok_bare hc0 hc1 hc2 w9]; rfl
  have t4 : lexX [[a0, a1, a2], [b0, b1, b2], [c0, c1, c2], [d0, d1, d2], [e0, e1, e2]] 4 = ⟨2, [], 32 :: 9 :: 92 :: e0 :: 92 :: e1 :: 92 :: e2 :: 10 :: []⟩ := by
    show (tokR (lexX [[a0, a1, a2], [b0, b1, b2], [c0, c1, c2], [d0, d1, d2], [e0, e1, e2]] 3)).2 = _
    rw [t3, tok_ws w13, tok_ws w10, tok_esc hd0 hd1 hd2 w13]; rfl
  have t5 : lexX [[a0, a1, a2], [b0, b1, b2], [c0, c1, c2], [d0, d1, d2], [e0, e1, e2]] 5 = ⟨3, [], []⟩ := by
    show (tokR (lexX [[a0, a1, a2], [b0, b1, b2], [c0, c1, c2], [d0, d1, d2], [e0, e1, e2]] 4)).2 = _
    rw [t4, tok_ws w32, tok_ws w9, tok_esc he0 he1 he2 w10]; rfl
  refine ⟨fun i hi => ?_, fun i hi => ?_, fun i hi => ?_, fun i hi => ?_, fun i hi => ?_, t5, ?_⟩
  · match i, hi with
    | 0, _ => rw [t0, tok_bare ha0 ha1 ha2 w32]; try rfl
    | 1, _ => rw [t1, tok_quo hb0 hb1 hb2]; rfl
    | 2, _ => rw [t2, tok_bare hc0 hc1 hc2 w9]; rfl
    | 3, _ => rw [t3, tok_ws w13, tok_ws w10, tok_esc hd0 hd1 hd2 w13]; rfl
    | 4, _ => rw [t4, tok_ws w32, tok_ws w9, tok_esc he0 he1 he2 w10]; rfl
  · match i, hi with
    | 0, _ => rw [t1]; rfl
    | 1, _ => rw [t2]; rfl
    | 2, _ => rw [t3]; rfl
    | 3, _ => rw [t4]; rfl
    | 4, _ => rw [t5]; rfl
  · match i, hi with
    | 0, _ => rw [t1]; rfl
    | 1, _ => rw [t2]; rfl
    | 2, _ => rw [t3]; rfl
    | 3, _ => rw [t4]; rfl
    | 4, _ => rw [t5]; rfl
  · have go : ∀ {n : Int} {l : List Nat}, l.length ≤ 40 → (∀ c ∈ l, c ≤ 92) → SgOk ⟨n, [], l⟩ [] := fun {n l} h1 h2 => ⟨by show l.length ≤ 1000; omega, isPys_dC h2, by show 0 + l.length ≤ 1000; omega⟩
    match i, hi with
    | 0, _ => rw [t0]; exact go (by simp) (by unfold Pl at *; intro c hc; simp only [List.mem_cons, List.not_mem_nil, or_false] at hc; omega)
    | 1, _ => rw [t1]; exact go (by simp) (by unfold Pl at *; intro c hc; simp only [List.mem_cons, List.not_mem_nil, or_false] at hc; omega)
    | 2, _ => rw [t2]; exact go (by simp) (by unfold Pl at *; intro c hc; simp only [List.mem_cons, List.not_mem_nil, or_false] at hc; omega)
    | 3, _ => rw [t3]; exact go (by simp) (by unfold Pl at *; intro c hc; simp only [List.mem_cons, List.not_mem_nil, or_false] at hc; omega)
    | 4, _ => rw [t4]; exact go (by simp) (by unfold Pl at *; intro c hc; simp only [List.mem_cons, List.not_mem_nil, or_false] at hc; omega)
  · match i, hi with
    | 0, _ => rw [t0]
    | 1, _ => rw [t1]
    | 2, _ => rw [t2]
    | 3, _ => rw [t3]
    | 4, _ => rw [t4]
  · have e : zs 0 5 = [0, 1, 2, 3, 4] := by decide +kernel
    unfold rowD
    rw [e]
    simp only [List.map_cons, List.map_nil, isPy, isPys, rowT, Bool.and_true, Bool.and_eq_true]
    exact ⟨strOk3 ha0 ha1 ha2, strOk3 hb0 hb1 hb2, strOk3 hc0 hc1 hc2, strOk3 hd0 hd1 hd2, strOk3 he0 he1 he2⟩
end
section
theorem w_small (x : Int) (h : 0 ≤ x ∧ x ≤ 2) : (PyData.int x).weight ≤ 2 := by
  have q : x = 0 ∨ x = 1 ∨ x = 2 := by omega
  rcases q with rfl | rfl | rfl <;> decide +kernel
theorem lay5 {l : List Int} (h : l.length = 5) (hl : ∀ x ∈ l, 0 ≤ x ∧ x ≤ 2) : (PyData.list (List.map PyData.int l)).layable0 = true := by
  match l, h, hl with
  | [a, b, c, d, e], _, hl =>
    have h1 := w_small a (hl a (by simp))
    have h2 := w_small b (hl b (by simp))
    have h3 := w_small c (hl c (by simp))
    have h4 := w_small d (hl d (by simp))
    have h5 := w_small e (hl e (by simp))
    have ew : (PyData.list (List.map PyData.int [a, b, c, d, e])).weight = (PyData.int a).weight + 1 + ((PyData.int b).weight + 1 + ((PyData.int c).weight + 1 + ((PyData.int d).weight + 1 + ((PyData.int e).weight + 1 + 0)))) := rfl
    have ed : (PyData.list (List.map PyData.int [a, b, c, d, e])).depth ≤ 64 := by simp [PyData.depth, PyData.depthAll]
    have ec : (PyData.list (List.map PyData.int [a, b, c, d, e])).canLay0 = true := rfl
    unfold PyData.layable0
    rw [ec, decide_eq_true ed, decide_eq_true (by rw [ew]; omega)]
    rfl
/-- what one light asks -/
noncomputable def plB (c : Nat) : Bool := decide (48 ≤ c) && decide (c ≤ 80)
noncomputable def wOk2 (h share top : Int) : Bool := wOk h share top && (wordF h share top).all plB
theorem tgr : ∀ c ∈ greys, (wOk2 0 c.1 c.2 && pOk 0 c.1 c.2) = true := by decide +kernel
theorem tw0 : ∀ h ∈ zs 0 12, ∀ c ∈ brights, wOk2 h c.1 c.2 = true := by decide +kernel
theorem tw1 : ∀ h ∈ zs 12 12, ∀ c ∈ brights, wOk2 h c.1 c.2 = true := by decide +kernel
theorem tw2 : ∀ h ∈ zs 24 12, ∀ c ∈ brights, wOk2 h c.1 c.2 = true := by decide +kernel
theorem tw3 : ∀ h ∈ zs 36 12, ∀ c ∈ brights, wOk2 h c.1 c.2 = true := by decide +kernel
theorem tq0 : ∀ h ∈ zs 0 12, ∀ c ∈ brights, pOk h c.1 c.2 = true := by decide +kernel
theorem tq1 : ∀ h ∈ zs 12 12, ∀ c ∈ brights, pOk h c.1 c.2 = true := by decide +kernel
theorem tq2 : ∀ h ∈ zs 24 12, ∀ c ∈ brights, pOk h c.1 c.2 = true := by decide +kernel
theorem tq3 : ∀ h ∈ zs 36 12, ∀ c ∈ brights, pOk h c.1 c.2 = true := by decide +kernel
theorem tq4 : ∀ h ∈ zs 48 12, ∀ c ∈ brights, pOk h c.1 c.2 = true := by decide +kernel
theorem tq5 : ∀ h ∈ zs 60 12, ∀ c ∈ brights, pOk h c.1 c.2 = true := by decide +kernel
theorem in_zs {a : Int} {n : Nat} {h : Int} (h1 : a ≤ h) (h2 : h < a + n) : h ∈ zs a n := by
  unfold zs
  refine List.mem_map.mpr ⟨(h - a).toNat, List.mem_range.mpr (by omega), by omega⟩
theorem tw_all {h : Int} (h1 : 0 ≤ h) (h2 : h < 48) {c : Int × Int} (hc : c ∈ brights) : wOk2 h c.1 c.2 = true := by
  by_cases q1 : h < 12
  · exact tw0 h (in_zs (by omega) (by omega)) c hc
  by_cases q2 : h < 24
  · exact tw1 h (in_zs (by omega) (by omega)) c hc
  by_cases q3 : h < 36
  · exact tw2 h (in_zs (by omega) (by omega)) c hc
  exact tw3 h (in_zs (by omega) (by omega)) c hc
theorem tp_all {h : Int} (h1 : 0 ≤ h) (h2 : h < 72) {c : Int × Int} (hc : c ∈ brights) : pOk h c.1 c.2 = true := by
  by_cases q1 : h < 12
  · exact tq0 h (in_zs (by omega) (by omega)) c hc
  by_cases q2 : h < 24
  · exact tq1 h (in_zs (by omega) (by omega)) c hc
  by_cases q3 : h < 36
  · exact tq2 h (in_zs (by omega) (by omega)) c hc
  by_cases q4 : h < 48
  · exact tq3 h (in_zs (by omega) (by omega)) c hc
  by_cases q5 : h < 60
  · exact tq4 h (in_zs (by omega) (by omega)) c hc
  exact tq5 h (in_zs (by omega) (by omega)) c hc
theorem wordF_mod (h s t : Int) : wordF (h % 48) s t = wordF h s t := by
  have e : ∀ c, chW (h % 48) s t c = chW h s t c := fun c => by
    have q : wayF (h % 48) c = wayF h c := by
      unfold wayF
      rw [show (h % 48 - c) % 48 = (h - c) % 48 by omega, show (c - h % 48) % 48 = (c - h) % 48 by omega]
    unfold chW
    rw [q]
  unfold wordF
  exact List.map_congr_left fun c _ => by rw [e]
theorem wordF_grey (h t : Int) : wordF h 0 t = wordF 0 0 t := by
  unfold wordF
  refine List.map_congr_left fun c _ => ?_
  unfold chW
  simp
noncomputable def shareF (p l : Int) : Int := if p > 1 then 500 + 500 * l else 0
structure Light (p l h : Int) : Prop where
  t3 : told3 (wordF h (shareF p l) (topF p l)) = true
  tw : toldW (wordF h (shareF p l) (topF p l)) = [if shareF p l > 0 then h % 48 * 1000 else 0, shareF p l, topF p l * 1000]
  pl : ∀ c ∈ wordF h (shareF p l) (topF p l), Pl c
theorem plB_pl {l : List Nat} (h : l.all plB = true) : ∀ c ∈ l, Pl c := fun c hc => by
  have := List.all_eq_true.mp h c hc
  simp [plB] at this
  exact this
theorem light_cases {p l : Int} (hp : 0 ≤ p ∧ p ≤ 3) (hl : 0 ≤ l ∧ l ≤ 1) : (p ≤ 1 ∧ shareF p l = 0 ∧ (0, topF p l) ∈ greys) ∨ (1 < p ∧ 0 < shareF p l ∧ (shareF p l, topF p l) ∈ brights) := by
  have q : p = 0 ∨ p = 1 ∨ p = 2 ∨ p = 3 := by omega
  have q2 : l = 0 ∨ l = 1 := by omega
  rcases q with rfl | rfl | rfl | rfl <;> rcases q2 with rfl | rfl <;> decide
theorem light_of {p l h : Int} (hp : 0 ≤ p ∧ p ≤ 3) (hl : 0 ≤ l ∧ l ≤ 1) : Light p l h := by
  rcases light_cases hp hl with ⟨_, hs, hm⟩ | ⟨_, hs, hm⟩
  · have t := tgr _ hm
    simp only [Bool.and_eq_true, wOk2, wOk, beq_iff_eq] at t
    obtain ⟨⟨⟨t1, t2⟩, t3⟩, _⟩ := t
    refine ⟨?_, ?_, ?_⟩
    · rw [hs, wordF_grey]; exact t1
    · rw [hs, wordF_grey, t2]; simp
    · rw [hs, wordF_grey]; exact plB_pl t3
  · have t := tw_all (h := h % 48) (by omega) (by omega) hm
    simp only [Bool.and_eq_true, wOk2, wOk, beq_iff_eq] at t
    obtain ⟨⟨t1, t2⟩, t3⟩ := t
    rw [wordF_mod] at t1 t2 t3
    refine ⟨t1, ?_, plB_pl t3⟩
    rw [t2, if_pos hs, if_pos hs, show h % 48 % 48 = h % 48 by omega]
noncomputable def stepR (c r : Int) : Int := ([c, 0, 0] : List Int).getD r.toNat 0
theorem paint_of {p l h r : Int} (hp : 0 ≤ p ∧ p ≤ 3) (hl : 0 ≤ l ∧ l ≤ 1) (hr : 0 ≤ r ∧ r ≤ 2) (h0 : r = 0 → 1 < p) :
    paintOk ((if shareF p l > 0 then h % 48 * 1000 else 0) + stepR 24000 r) (shareF p l) (topF p l * 1000) = true ∧ paintF ((if shareF p l > 0 then h % 48 * 1000 else 0) + stepR 24000 r) (shareF p l) (topF p l * 1000) = wordF (h + stepR 24 r) (shareF p l) (topF p l) := by
  rcases light_cases hp hl with ⟨q, hs, hm⟩ | ⟨q, hs, hm⟩
  · have hr' : r = 1 ∨ r = 2 := by
      have : r ≠ 0 := fun e => by have := h0 e; omega
      omega
    have t := tgr _ hm
    simp only [Bool.and_eq_true, pOk, beq_iff_eq] at t
    obtain ⟨_, t1, t2⟩ := t
    have e1 : stepR 24000 r = 0 := by rcases hr' with rfl | rfl <;> rfl
    rw [hs, wordF_grey, e1]
    exact ⟨t1, t2⟩
  · have key : ∀ H : Int, 0 ≤ H → H < 72 → paintOk (H * 1000) (shareF p l) (topF p l * 1000) = true ∧ paintF (H * 1000) (shareF p l) (topF p l * 1000) = wordF H (shareF p l) (topF p l) := fun H a b => by
      have t := tp_all a b hm
      simp only [Bool.and_eq_true, pOk, beq_iff_eq] at t
      exact t
    rw [if_pos hs]
    have q : r = 0 ∨ r = 1 ∨ r = 2 := by omega
    rcases q with rfl | hq
    · have := key (h % 48 + 24) (by omega) (by omega)
      rw [show (h % 48) * 1000 + stepR 24000 0 = (h % 48 + 24) * 1000 by show h % 48 * 1000 + 24000 = _; omega, show stepR 24 0 = 24 from rfl]
      refine ⟨this.1, this.2.trans ?_⟩
      rw [← wordF_mod, ← wordF_mod (h + 24), show (h % 48 + 24) % 48 = (h + 24) % 48 by omega]
    · have := key (h % 48) (by omega) (by omega)
      have e1 : stepR 24000 r = 0 := by rcases hq with rfl | rfl <;> rfl
      have e2 : stepR 24 r = 0 := by rcases hq with rfl | rfl <;> rfl
      rw [e1, e2, Int.add_zero, Int.add_zero]
      refine ⟨this.1, this.2.trans ?_⟩
      rw [wordF_mod]
end
section
noncomputable def ringP (places ring : List Int) : Bool := (zs 0 5).all fun k => (ring.getD k.toNat 0 != 0) || decide (places.getD k.toNat 0 > 1)
noncomputable def okPl (p : List Int) : Bool := decide (p.count 2 < p.count 1) || (okPlaces p && ringP (p ++ [2]) (lineF (comingP (p ++ [2])) (countersP (p ++ [2])) x3))
noncomputable def four : List Int := [0, 1, 2, 3]
theorem tl00 : ∀ c ∈ four, ∀ d ∈ four, okPl [0, 0, c, d] = true := by decide +kernel
theorem tl01 : ∀ c ∈ four, ∀ d ∈ four, okPl [0, 1, c, d] = true := by decide +kernel
theorem tl02 : ∀ c ∈ four, ∀ d ∈ four, okPl [0, 2, c, d] = true := by decide +kernel
theorem tl03 : ∀ c ∈ four, ∀ d ∈ four, okPl [0, 3, c, d] = true := by decide +kernel
theorem tl10 : ∀ c ∈ four, ∀ d ∈ four, okPl [1, 0, c, d] = true := by decide +kernel
theorem tl11 : ∀ c ∈ four, ∀ d ∈ four, okPl [1, 1, c, d] = true := by decide +kernel
theorem tl12 : ∀ c ∈ four, ∀ d ∈ four, okPl [1, 2, c, d] = true := by decide +kernel
theorem tl13 : ∀ c ∈ four, ∀ d ∈ four, okPl [1, 3, c, d] = true := by decide +kernel
theorem tl20 : ∀ c ∈ four, ∀ d ∈ four, okPl [2, 0, c, d] = true := by decide +kernel
theorem tl21 : ∀ c ∈ four, ∀ d ∈ four, okPl [2, 1, c, d] = true := by decide +kernel
theorem tl22 : ∀ c ∈ four, ∀ d ∈ four, okPl [2, 2, c, d] = true := by decide +kernel
theorem tl23 : ∀ c ∈ four, ∀ d ∈ four, okPl [2, 3, c, d] = true := by decide +kernel
theorem tl30 : ∀ c ∈ four, ∀ d ∈ four, okPl [3, 0, c, d] = true := by decide +kernel
theorem tl31 : ∀ c ∈ four, ∀ d ∈ four, okPl [3, 1, c, d] = true := by decide +kernel
theorem tl32 : ∀ c ∈ four, ∀ d ∈ four, okPl [3, 2, c, d] = true := by decide +kernel
theorem tl33 : ∀ c ∈ four, ∀ d ∈ four, okPl [3, 3, c, d] = true := by decide +kernel
theorem tl0 : ∀ b ∈ four, ∀ c ∈ four, ∀ d ∈ four, okPl [0, b, c, d] = true := by
  intro b hb
  simp only [four, List.mem_cons, List.not_mem_nil, or_false] at hb
  rcases hb with rfl | rfl | rfl | rfl
  · exact tl00
  · exact tl01
  · exact tl02
  · exact tl03
theorem tl1 : ∀ b ∈ four, ∀ c ∈ four, ∀ d ∈ four, okPl [1, b, c, d] = true := by
  intro b hb
  simp only [four, List.mem_cons, List.not_mem_nil, or_false] at hb
  rcases hb with rfl | rfl | rfl | rfl
  · exact tl10
  · exact tl11
  · exact tl12
  · exact tl13
theorem tl2 : ∀ b ∈ four, ∀ c ∈ four, ∀ d ∈ four, okPl [2, b, c, d] = true := by
  intro b hb
  simp only [four, List.mem_cons, List.not_mem_nil, or_false] at hb
  rcases hb with rfl | rfl | rfl | rfl
  · exact tl20
  · exact tl21
  · exact tl22
  · exact tl23
theorem tl3 : ∀ b ∈ four, ∀ c ∈ four, ∀ d ∈ four, okPl [3, b, c, d] = true := by
  intro b hb
  simp only [four, List.mem_cons, List.not_mem_nil, or_false] at hb
  rcases hb with rfl | rfl | rfl | rfl
  · exact tl30
  · exact tl31
  · exact tl32
  · exact tl33
theorem tl_all : ∀ a ∈ four, ∀ b ∈ four, ∀ c ∈ four, ∀ d ∈ four, okPl [a, b, c, d] = true := by
  intro a ha
  simp only [four, List.mem_cons, List.not_mem_nil, or_false] at ha
  rcases ha with rfl | rfl | rfl | rfl
  · exact tl0
  · exact tl1
  · exact tl2
  · exact tl3
theorem in_four {x : Int} (h : 0 ≤ x ∧ x ≤ 3) : x ∈ four := by
  simp only [four, List.mem_cons, List.not_mem_nil, or_false]
  omega
theorem sw_tab : ∀ a ∈ four, ∀ b ∈ four, ∀ c ∈ four, ∀ d ∈ four, ([swapP a, swapP b, swapP c, swapP d] : List Int).count 1 = ([a, b, c, d] : List Int).count 2 ∧ ([swapP a, swapP b, swapP c, swapP d] : List Int).count 2 = ([a, b, c, d] : List Int).count 1 := by decide +kernel
theorem swapP_range {x : Int} (h : 0 ≤ x ∧ x ≤ 3) : 0 ≤ swapP x ∧ swapP x ≤ 3 := by
  unfold swapP
  split
  · omega
  · split <;> omega
theorem places_of (h : Int) : ∃ a b c d : Int, placesF h = [a, b, c, d, 2] ∧ (0 ≤ a ∧ a ≤ 3) ∧ (0 ≤ b ∧ b ≤ 3) ∧ (0 ≤ c ∧ c ≤ 3) ∧ (0 ≤ d ∧ d ≤ 3) ∧ okPl [a, b, c, d] = true ∧ ¬ ([a, b, c, d] : List Int).count 2 < ([a, b, c, d] : List Int).count 1 := by
  have e : placesA h = [h / 4 ^ 0 % 4, h / 4 ^ 1 % 4, h / 4 ^ 2 % 4, h / 4 ^ 3 % 4] := rfl
  have r : ∀ x : Int, 0 ≤ x % 4 ∧ x % 4 ≤ 3 := fun x => by omega
  unfold placesF
  rw [e]
  generalize ha : h / 4 ^ 0 % 4 = a
  generalize hb : h / 4 ^ 1 % 4 = b
  generalize hc : h / 4 ^ 2 % 4 = c
  generalize hd : h / 4 ^ 3 % 4 = d
  have ra : 0 ≤ a ∧ a ≤ 3 := by rw [← ha]; exact r _
  have rb : 0 ≤ b ∧ b ≤ 3 := by rw [← hb]; exact r _
  have rc : 0 ≤ c ∧ c ≤ 3 := by rw [← hc]; exact r _
  have rd : 0 ≤ d ∧ d ≤ 3 := by rw [← hd]; exact r _
  by_cases q : ([a, b, c, d] : List Int).count 1 > ([a, b, c, d] : List Int).count 2
  · have t := sw_tab a (in_four ra) b (in_four rb) c (in_four rc) d (in_four rd)
    have ra' := swapP_range ra
    have rb' := swapP_range rb
    have rc' := swapP_range rc
    have rd' := swapP_range rd
    rw [if_pos q]
    refine ⟨swapP a, swapP b, swapP c, swapP d, rfl, ra', rb', rc', rd', tl_all _ (in_four ra') _ (in_four rb') _ (in_four rc') _ (in_four rd'), ?_⟩
    omega
  · rw [if_neg q]
    exact ⟨a, b, c, d, rfl, ra, rb, rc, rd, tl_all _ (in_four ra) _ (in_four rb) _ (in_four rc) _ (in_four rd), q⟩
theorem sameLx_eq {x : Lx} (h : sameLx x = true) : x = x3 := by
  obtain ⟨n, p, s⟩ := x
  simp only [sameLx, Bool.and_eq_true, beq_iff_eq, List.isEmpty_iff] at h
  obtain ⟨⟨rfl, rfl⟩, rfl⟩ := h
  rfl
structure RingOk (ring : List Int) : Prop where
  l : ring.length = 5
  r : ∀ x ∈ ring, 0 ≤ x ∧ x ≤ 2
  one : 1 ∈ ring
  y : (PyData.list (List.map PyData.int ring)).layable0 = true
theorem ringOk_of {ring : List Int} (h : ringOk ring = true) : RingOk ring := by
  simp only [ringOk, Bool.and_eq_true, beq_iff_eq, List.all_eq_true, List.any_eq_true, decide_eq_true_eq] at h
  obtain ⟨⟨h1, h2⟩, x, hx, rfl⟩ := h
  exact ⟨h1, h2, hx, lay5 h1 h2⟩
structure LawOk (coming counters : List Int) : Prop where
  way : WayOk coming counters (lineF coming counters x3)
  ring : RingOk (lineF coming counters x3)
  st : (lnAll coming counters x3).1 = x3
  tk : ∀ way ∈ waysF coming, takesOk (lineF coming counters x3) way = true
theorem lawOk_of {coming counters : List Int} (hl : counters.length = 5) (h : lawOk coming counters = true) : LawOk coming counters := by
  simp only [lawOk, Bool.and_eq_true] at h
  obtain ⟨⟨⟨⟨h1, h2⟩, h3⟩, h4⟩, h5⟩ := h
  have h3' := fun way hw => List.all_eq_true.mp h3 way hw
  have h4' := fun k hk => List.all_eq_true.mp h4 k hk
  simp only [Bool.and_eq_true, beq_iff_eq] at h3' h4'
  have R := ringOk_of h2
  refine ⟨⟨hl, R.l, R.r, fun way hw => sameLx_eq (h3' way hw).1.1, fun way hw => (h3' way hw).2, fun k hk => (ringOk_of (h4' k hk).1).l, fun k hk => (ringOk_of (h4' k hk).1).r, fun k hk => (ringOk_of (h4' k hk).1).one, fun k hk => (ringOk_of (h4' k hk).1).y, fun k hk way hw => List.all_eq_true.mp (h4' k hk).2 way hw, ?_⟩, R, sameLx_eq h1, fun way hw => (h3' way hw).1.2⟩
  rw [sumI_eq] at h5
  exact h5
end
section
theorem k5_of {k : Int} (h : k ∈ zs 0 5) : k = 0 ∨ k = 1 ∨ k = 2 ∨ k = 3 ∨ k = 4 := by obtain ⟨i, hi, rfl⟩ := mem_zs h; omega
theorem getD5 {α : Type} {f : Int → α} {d : α} {k : Int} (h : k ∈ zs 0 5) : ((zs 0 5).map f).getD k.toNat d = f k := by
  rcases k5_of h with rfl | rfl | rfl | rfl | rfl <;> rfl
section
variable {places looks : List Int} (hp : ∀ x ∈ places, 0 ≤ x ∧ x ≤ 3) (hl : ∀ x ∈ looks, 0 ≤ x ∧ x ≤ 1)
theorem tops_at {k : Int} (h : k ∈ zs 0 5) : (topsF places looks).getD k.toNat 0 = topF (places.getD k.toNat 0) (looks.getD k.toNat 0) := getD5 h
theorem shares_at {k : Int} (h : k ∈ zs 0 5) : (sharesF places looks).getD k.toNat 0 = shareF (places.getD k.toNat 0) (looks.getD k.toNat 0) := getD5 h
theorem words_at {hues shares tops : List Int} {k : Int} (h : k ∈ zs 0 5) : (wordsF hues shares tops).getD k.toNat [] = wordF (hues.getD k.toNat 0) (shares.getD k.toNat 0) (tops.getD k.toNat 0) := getD5 h
include hp hl
theorem light_at (hues : List Int) {k : Int} : Light (places.getD k.toNat 0) (looks.getD k.toNat 0) (hues.getD k.toNat 0) :=
  light_of (getD_all hp ⟨by decide, by decide⟩) (getD_all hl ⟨by decide, by decide⟩)
theorem word_told (hues : List Int) {k : Int} (h : k ∈ zs 0 5) :
    told3 (wordF (hues.getD k.toNat 0) ((sharesF places looks).getD k.toNat 0) ((topsF places looks).getD k.toNat 0)) = true ∧
    toldW (wordF (hues.getD k.toNat 0) ((sharesF places looks).getD k.toNat 0) ((topsF places looks).getD k.toNat 0)) = [if (sharesF places looks).getD k.toNat 0 > 0 then hues.getD k.toNat 0 % 48 * 1000 else 0, (sharesF places looks).getD k.toNat 0, (topsF places looks).getD k.toNat 0 * 1000] ∧
    (∀ c ∈ wordF (hues.getD k.toNat 0) ((sharesF places looks).getD k.toNat 0) ((topsF places looks).getD k.toNat 0), Pl c) := by
  rw [tops_at h, shares_at h]
  have t := light_at hp hl hues (k := k)
  exact ⟨t.t3, t.tw, t.pl⟩
theorem words_told (hues : List Int) : ∀ p ∈ wordsF hues (sharesF places looks) (topsF places looks), told3 p = true ∧ (∀ c ∈ p, Pl c) := by
  intro p hm
  obtain ⟨k, hk, rfl⟩ := List.mem_map.mp hm
  have t := word_told hp hl hues hk
  exact ⟨t.1, t.2.2⟩
theorem words_map (hues : List Int) : (wordsF hues (sharesF places looks) (topsF places looks)).map toldW = dueF hues (sharesF places looks) (topsF places looks) := by
  unfold wordsF dueF
  rw [List.map_map]
  exact List.map_congr_left fun k hk => (word_told hp hl hues hk).2.1
theorem words_toldL (hues : List Int) : toldL (wordsF hues (sharesF places looks) (topsF places looks)) = dueF hues (sharesF places looks) (topsF places looks) := by
  unfold toldL dueF
  refine List.map_congr_left fun k hk => ?_
  rw [words_at hk]
  exact (word_told hp hl hues hk).2.1
theorem words_k (hues : List Int) : ∀ k, k ∈ zs 0 5 → told3 ((wordsF hues (sharesF places looks) (topsF places looks)).getD k.toNat []) = true := fun k hk => by
  rw [words_at hk]
  exact (word_told hp hl hues hk).1
omit hp hl
theorem len3 {hues shares tops : List Int} : ∀ p ∈ wordsF hues shares tops, p.length = 3 := by
  intro p hm
  obtain ⟨k, hk, rfl⟩ := List.mem_map.mp hm
  simp [wordF]
theorem of_len3 {p : List Nat} (h : p.length = 3) (hc : ∀ c ∈ p, Pl c) : ∃ x y z, p = [x, y, z] ∧ Pl x ∧ Pl y ∧ Pl z := by
  match p, h with
  | [x, y, z], _ => exact ⟨x, y, z, rfl, hc x (by simp), hc y (by simp), hc z (by simp)⟩
theorem words_five (hues shares tops : List Int) : ∃ w0 w1 w2 w3 w4, wordsF hues shares tops = [w0, w1, w2, w3, w4] := ⟨_, _, _, _, _, rfl⟩
theorem row_five {w0 w1 w2 w3 w4 : List Nat} (h3 : ∀ p ∈ [w0, w1, w2, w3, w4], p.length = 3) (hc : ∀ p ∈ [w0, w1, w2, w3, w4], ∀ c ∈ p, Pl c) : RowOk [w0, w1, w2, w3, w4] ∧ isPy (dS [w0, w1, w2, w3, w4]) = true ∧ (textF [w0, w1, w2, w3, w4]).length ≤ 1000 := by
  obtain ⟨a0, a1, a2, rfl, ha0, ha1, ha2⟩ := of_len3 (h3 w0 (by simp)) (hc w0 (by simp))
  obtain ⟨b0, b1, b2, rfl, hb0, hb1, hb2⟩ := of_len3 (h3 w1 (by simp)) (hc w1 (by simp))
  obtain ⟨c0, c1, c2, rfl, hc0, hc1, hc2⟩ := of_len3 (h3 w2 (by simp)) (hc w2 (by simp))
  obtain ⟨d0, d1, d2, rfl, hd0, hd1, hd2⟩ := of_len3 (h3 w3 (by simp)) (hc w3 (by simp))
  obtain ⟨e0, e1, e2, rfl, he0, he1, he2⟩ := of_len3 (h3 w4 (by simp)) (hc w4 (by simp))
  refine ⟨rowOk_of ha0 ha1 ha2 hb0 hb1 hb2 hc0 hc1 hc2 hd0 hd1 hd2 he0 he1 he2, ?_, ?_⟩
  · show isPys [.str (S [a0, a1, a2]), .str (S [b0, b1, b2]), .str (S [c0, c1, c2]), .str (S [d0, d1, d2]), .str (S [e0, e1, e2])] = true
    simp only [isPys, Bool.and_true, Bool.and_eq_true]
    exact ⟨strOk3 ha0 ha1 ha2, strOk3 hb0 hb1 hb2, strOk3 hc0 hc1 hc2, strOk3 hd0 hd1 hd2, strOk3 he0 he1 he2⟩
  · show (textF [[a0, a1, a2], [b0, b1, b2], [c0, c1, c2], [d0, d1, d2], [e0, e1, e2]]).length ≤ 1000
    exact (by decide : (33 : Nat) ≤ 1000)
include hp hl
theorem words_row (hues : List Int) : RowOk (wordsF hues (sharesF places looks) (topsF places looks)) ∧ isPy (dS (wordsF hues (sharesF places looks) (topsF places looks))) = true ∧ (textF (wordsF hues (sharesF places looks) (topsF places looks))).length ≤ 1000 := by
  have h3 := len3 (hues := hues) (shares := sharesF places looks) (tops := topsF places looks)
  have hc := fun p hm => (words_told hp hl hues p hm).2
  obtain ⟨w0, w1, w2, w3, w4, e⟩ := words_five hues (sharesF places looks) (topsF places looks)
  rw [e] at h3 hc ⊢
  exact row_five h3 hc
theorem paint_at (hues : List Int) {ring : List Int} (hr : ∀ x ∈ ring, 0 ≤ x ∧ x ≤ 2) (h0 : ringP places ring = true) (l : ring.length = 5) {k : Int} (h : k ∈ zs 0 5) :
    paintOk (paintA hues (sharesF places looks) (topsF places looks) ring k) ((sharesF places looks).getD k.toNat 0) ((topsF places looks).getD k.toNat 0 * 1000) = true ∧
    paintF (paintA hues (sharesF places looks) (topsF places looks) ring k) ((sharesF places looks).getD k.toNat 0) ((topsF places looks).getD k.toNat 0 * 1000) = wordF (hues.getD k.toNat 0 + step3 24 ring k) ((sharesF places looks).getD k.toNat 0) ((topsF places looks).getD k.toNat 0) := by
  unfold paintA
  rw [tops_at h, shares_at h]
  refine paint_of (r := ring.getD k.toNat 0) (getD_all hp ⟨by decide, by decide⟩) (getD_all hl ⟨by decide, by decide⟩) (getD_all hr ⟨by decide, by decide⟩) fun e => ?_
  have t := List.all_eq_true.mp h0 k h
  rw [e] at t
  simpa using t
theorem after_eq (hues : List Int) {ring : List Int} (hr : ∀ x ∈ ring, 0 ≤ x ∧ x ≤ 2) (h0 : ringP places ring = true) (l : ring.length = 5) :
    afterF hues (sharesF places looks) (topsF places looks) ring = wordsF (ledF hues ring) (sharesF places looks) (topsF places looks) := by
  unfold afterF wordsF
  refine List.map_congr_left fun k hk => ?_
  rw [(paint_at hp hl hues hr h0 l hk).2, show (ledF hues ring).getD k.toNat 0 = hues.getD k.toNat 0 + step3 24 ring k from getD5 hk]
omit hp hl
theorem light_bits {p l : Int} (hp : 0 ≤ p ∧ p ≤ 3) (hl : 0 ≤ l ∧ l ≤ 1) : (if topF p l * 1000 > 16000 then (1 : Int) else 0) = (if p = 1 ∨ p = 3 then 1 else 0) ∧ (if shareF p l > 0 then (1 : Int) else 0) = (if p = 2 ∨ p = 3 then 1 else 0) := by
  have q : p = 0 ∨ p = 1 ∨ p = 2 ∨ p = 3 := by omega
  have q2 : l = 0 ∨ l = 1 := by omega
  rcases q with rfl | rfl | rfl | rfl <;> rcases q2 with rfl | rfl <;> decide
theorem map_five {α : Type} {f : Int → α} {l : List Int} (h : l.length = 5) : l.map f = (zs 0 5).map fun k => f (l.getD k.toNat 0) := by
  match l, h with
  | [a, b, c, d, e], _ => rfl
include hp hl
theorem coming_eq (h : places.length = 5) : comingF (topsF places looks) = comingP places := by
  unfold comingP
  rw [map_five h]
  refine List.map_congr_left fun k hk => ?_
  rw [tops_at hk]
  exact (light_bits (getD_all hp ⟨by decide, by decide⟩) (getD_all hl ⟨by decide, by decide⟩)).1
theorem counters_eq (h : places.length = 5) : countersF (sharesF places looks) = countersP places := by
  unfold countersP
  rw [map_five h]
  refine List.map_congr_left fun k hk => ?_
  rw [shares_at hk]
  exact (light_bits (getD_all hp ⟨by decide, by decide⟩) (getD_all hl ⟨by decide, by decide⟩)).2
theorem tops_mem : ∀ x ∈ topsF places looks, 0 ≤ x ∧ x ≤ 32 := fun x hx => by
  obtain ⟨k, _, rfl⟩ := List.mem_map.mp hx
  exact topF_range (getD_all hp ⟨by decide, by decide⟩) (getD_all hl ⟨by decide, by decide⟩)
omit hp in
theorem shares_mem : ∀ x ∈ sharesF places looks, 0 ≤ x ∧ x ≤ 1000 := fun x hx => by
  obtain ⟨k, _, rfl⟩ := List.mem_map.mp hx
  have := getD_all (i := k.toNat) hl ⟨by decide, by decide⟩
  split <;> omega
end
end
section
section
variable {hS : Heap} {prog : Program} {w : World} {m : Nat}
theorem law_rest {places looks hues script : List Int} {a : LA} {ok : LA.Ok hS a} (B : Base hS) (L : LexBase hS) (hp : ∀ x ∈ places, 0 ≤ x ∧ x ≤ 3) (hl : ∀ x ∈ looks, 0 ≤ x ∧ x ≤ 1) (l1 : hues.length = 5) (l5 : places.length = 5)
    (O : LawOk (comingP places) (countersP places)) (R : ringP places (lineF (comingP places) (countersP places) x3) = true) :
    EX prog w (m + 12) (lexW hS a ok) lwS lwV (lwL script places looks hues (topsF places looks) (sharesF places looks) (wordsF hues (sharesF places looks) (topsF places looks)) a.SG a.LX) ⟨1, [], textF (wordsF hues (sharesF places looks) (topsF places looks))⟩ (lwB.drop 10) (.ret (.bool true) x3) := by
  obtain ⟨Rw, _, _⟩ := words_row hp hl hues
  have lt : (topsF places looks).length = 5 := by simp [topsF, zs]
  have ls : (sharesF places looks).length = 5 := by simp [sharesF, zs]
  have lw : (wordsF hues (sharesF places looks) (topsF places looks)).length = 5 := by simp [wordsF, zs]
  have mt := tops_mem hp hl
  have ms := shares_mem (places := places) hl
  have mt' : ∀ x ∈ topsF places looks, -1000 < x ∧ x < 1000 := fun x hx => by have := mt x hx; omega
  have eC := coming_eq hp hl l5
  have eK := counters_eq hp hl l5
  have lC : (comingP places).length = 5 := by simp [comingP, l5]
  have lK : (countersP places).length = 5 := by simp [countersP, l5]
  have g := O.ring
  refine law_row (n := m + 3) B L Rw ?_
  refine law_if1 (n := m + 3) B Rw lw ?_
  refine law_told (n := m + 3) B l1 ls lt mt' (words_k hp hl hues) (words_toldL hp hl hues) ?_
  refine law_come (n := m + 3) B ?_
  rw [eC, eK]
  refine law_ring (n := m + 3) B L lC lK O.st ?_
  refine law_ringIf (n := m + 3) (List.any_eq_true.mpr ⟨1, g.one, rfl⟩) ?_
  refine law_after (n := m + 3) B l1 ls lt g.l g.r (fun k hk => (paint_at hp hl hues g.r R g.l hk).1) ?_
  rw [after_eq hp hl hues g.r R g.l]
  have wt := words_told hp hl (ledF hues (lineF (comingP places) (countersP places) x3))
  refine law_ledIf (n := m + 3) B (by simp [ledF, zs]) ls lt ms mt (words_row hp hl _).2.1 (fun p hm => (wt p hm).1) (words_map hp hl _) ?_
  refine law_ways (n := m + 3) B ?_
  refine law_taken (m := m) B g.l g.r g.one g.y O.tk ?_
  refine law_takenIf (n := m + 3) B L O.way ?_
  exact law_end (m := m) B O.way
noncomputable abbrev lwZ (script : List Int) : List (Option D) := [some (dI script), none, none, none, none, none, none, none, none, none, none, none, none, none, none, none, none, none, none, none, none, none, none]
theorem len_counters {p : List Int} (h : p.length = 5) : (countersP p).length = 5 := by simp [countersP, h]
theorem law_body {script : List Int} (B : Base hS) (L : LexBase hS) (hlen : script.length ≤ 63) :
    EX prog w (m + 12) (tabW hS L.hide) lwS lwV (lwZ script) false lwB (.ret (.bool true) true) := by
  refine law_A (n := m + 7) B hlen fun h0 h1 h2 _ => ?_
  obtain ⟨a, b, c, d, e, ra, rb, rc, rd, ok, hcnt⟩ := places_of h0
  have mp : ∀ x ∈ placesF h0, 0 ≤ x ∧ x ≤ 3 := fun x hx => mem_placesF hx
  have lp := len_placesF h0
  have ml : ∀ x ∈ looksF h1, 0 ≤ x ∧ x ≤ 1 := fun x hx => mem_looksF hx
  have lh : (huesF h1 h2).length = 5 := by simp [huesF, zs]
  have hok : okPlaces [a, b, c, d] = true ∧ ringP ([a, b, c, d] ++ [2]) (lineF (comingP ([a, b, c, d] ++ [2])) (countersP ([a, b, c, d] ++ [2])) x3) = true := by
    simp only [okPl, Bool.or_eq_true, decide_eq_true_eq, Bool.and_eq_true] at ok
    rcases ok with q | q
    · exact absurd q hcnt
    · exact q
  have e' : placesF h0 = [a, b, c, d] ++ [2] := e
  have O : LawOk (comingP (placesF h0)) (countersP (placesF h0)) := by
    rw [e']
    exact lawOk_of (len_counters (by simp)) hok.1
  have R : ringP (placesF h0) (lineF (comingP (placesF h0)) (countersP (placesF h0)) x3) = true := by
    rw [e']
    exact hok.2
  obtain ⟨_, _, lt⟩ := words_row mp ml (huesF h1 h2)
  exact law_B (n := m + 3) B L (by simp [wordsF, zs]) len3 lt rfl fun A okA => law_rest B L mp ml lh lp O R
end
end
section
/-! the head: the run of the top, once, and what of its heap is asked -/
noncomputable abbrev prog0 : Program := PySem.Challenge.pw_tp0011_01
noncomputable def view0 : Program := { prog0 with main := { prog0.main with body := [1, 2, 4, 5, 6, 8, 10, 11, 12, 13, 14, 15, 16, 17, 18, 19, 20].filterMap fun i => prog0.main.body[i]? } }
noncomputable abbrev row0 : OpenRow := PySem.Challenge.rw_tp0011_01.row
noncomputable def fdParams : Stmt → Arguments
  | .FunctionDef _ a _ _ _ _ _ _ _ _ => a
  | _ => default
noncomputable def hk (P : Params) (x : Str) (t : Tok) (v : Value) : DictEntry := ⟨PyData.keyHash P x, .str x t, v⟩
noncomputable def codeO (n q : Str) (t : Nat) (line args : Int) (r : Nat) (u : Int) (v : Nat) : Obj :=
  ⟨.type "code", none, .fields #[.str n t, .str q (t + 1), .str "/claim/cut.py" (t + 2), .int line 0, .int args 0, .int 0 0, .int 0 0, .int 3 0, .ref r, .bool true, .int 181 0, .ref (r + 1), .none, .ref (r + 2), .ref (r + 3), .ref (r + 4), .int u 0, .int line 0, .str "/claim/cut.py" v], #[]⟩
noncomputable def fnO (n q : Str) (st : Stmt) (pm : Value) (c : Addr) : Obj :=
  ⟨.type "function", none, .func { name := n, qualname := q, params := fdParams st, body := .stmts (fdBody st), scope := fdScope st, globals := 3, closure := [], defaults := .none, kwdefaults := .none, pyModule := pm, code := .ref c, builtins := 0 }, #[]⟩
noncomputable def KLaw (P : Params) : Frag := [
  (3, ⟨.type "dict", none, .dict #[hk P "__name__" 165 (.str "law_tp0011_01" 315), hk P "__doc__" 166 .none, hk P "__package__" 167 .none, hk P "__loader__" 168 (.builtin "__main__.__loader__#opaque"), hk P "__spec__" 169 .none, hk P "__annotations__" 170 (.ref 6), hk P "__builtins__" 171 (.ref 4), hk P "__file__" 173 (.str "/claim/cut.py" 172), hk P "__cached__" 174 .none, hk P "rgb_to_hsv" 206 (.ref 21), hk P "hsv_to_rgb" 220 (.ref 28), hk P "_iter_escaped_chars" 232 (.ref 35), hk P "_strip_quoted_realnames" 244 (.ref 42), hk P "_check_parenthesis" 254 (.ref 49), hk P "_netrclex" 314 (.ref 87), hk P "_law_stream" 325 (.ref 98), hk P "_law_places" 331 (.ref 103), hk P "_law_word" 343 (.ref 110), hk P "_law_text" 349 (.ref 115), hk P "_law_told" 359 (.ref 122), hk P "_law_due" 365 (.ref 127), hk P "_law_painted" 371 (.ref 132), hk P "_law_line" 377 (.ref 137), hk P "_law_takes" 388 (.ref 144), hk P "_law_changed" 397 (.ref 151), hk P "law" 403 (.ref 156)] 26, #[]⟩),
  (62, codeO "__init__" "_netrclex.__init__" 269 88 2 57 274 275), (63, fnO "__init__" "_netrclex.__init__" (mth 0) (.str "cpy313.netrc" 255) 62),
  (69, codeO "_read_char" "_netrclex._read_char" 277 94 1 64 282 283), (70, fnO "_read_char" "_netrclex._read_char" (mth 1) (.str "cpy313.netrc" 255) 69),
  (76, codeO "get_token" "_netrclex.get_token" 285 100 1 71 292 293), (77, fnO "get_token" "_netrclex.get_token" (mth 2) (.str "cpy313.netrc" 255) 76),
  (83, codeO "push_token" "_netrclex.push_token" 295 127 2 78 300 301), (84, fnO "push_token" "_netrclex.push_token" (mth 3) (.str "cpy313.netrc" 255) 83),
  (86, ⟨.type "dict", none, .dict #[hk P "__module__" 264 (.str "cpy313.netrc" 255), hk P "__firstlineno__" 268 (.int 86 267), hk P "__init__" 276 (.ref 63), hk P "_read_char" 284 (.ref 70), hk P "get_token" 294 (.ref 77), hk P "push_token" 302 (.ref 84), hk P "__static_attributes__" 307 (.ref 85), hk P "__dict__" 309 (.ref 88), hk P "__weakref__" 311 (.ref 89), hk P "__doc__" 312 .none] 4, #[]⟩),
  (87, lexCls),
  (97, codeO "_law_stream" "_law_stream" 317 130 1 92 323 324), (98, fnO "_law_stream" "_law_stream" (top 10) (.str "law_tp0011_01" 315) 97)]
noncomputable abbrev hook0 : Hook := kmHook KLaw [3, 62, 63, 69, 70, 76, 77, 83, 84, 86, 87, 97, 98] (fun _ => rfl) [93]
theorem said0 : OpenLaw.wellSaid PySem.Challenge.rw_tp0011_01 = true := by kernel_rfl
theorem left0 : LeftO row0.prog view0 [] (fun s => xlAt view0 [] s && recOk (RowW.records row0.toRowW) s) (Hook.obs hook0) (Hook.val hook0) 1826 := by
  intro w
  kernel_rfl
noncomputable def fdPos : Stmt → Pos
  | .FunctionDef _ _ _ _ _ _ _ _ _ p => p
  | _ => default
noncomputable abbrev lawD : DefRec := ⟨"law", fdParams (top 20), fdBody (top 20), fdScope (top 20), fdPos (top 20)⟩
theorem hd0 (hc : WalkO view0 [] (XL view0 []) (Hook.says hook0) row0.toRowW lawD [] fun f vs => PySem.call f vs) : PySem.Challenge.rw_tp0011_01.Holds := by
  refine holds_law said0 fun said => ?_
  refine holds_open (q := view0) (loose := []) (Xt := fun s => xlAt view0 [] s && recOk (RowW.records row0.toRowW) s) (XP := XL view0 []) (Yf := Hook.obs hook0) (Ya := Hook.val hook0) (YP := Hook.says hook0) (N := 1826) (d := lawD) (kwd := []) left0 (Hook.of hook0) (Hook.keeps hook0)
    (fun s e => xl_of s (Bool.and_eq_true_iff.mp e).1) XL.keeps ?hd ?hp ?hk (fun s e => recFacts_of (Bool.and_eq_true_iff.mp e).2) ?hwr said ?ok ⟨rfl, rfl, rfl, rfl, rfl, by decide +kernel⟩ ?hw hc
  case hd => kernel_rfl
  case hp => kernel_rfl
  case hk => kernel_rfl
  case hwr => rfl
  case ok => kernel_rfl
  case hw => w_witness2
end
section
theorem vsA1 {α : Type} : ∀ {vs : List α}, vs.length = 1 → ∃ a, vs = [a]
  | [a], _ => ⟨a, rfl⟩
theorem vsA2 {α : Type} : ∀ {vs : List α}, vs.length = 2 → ∃ a b, vs = [a, b]
  | a :: vs, e => by
    obtain ⟨b, rfl⟩ := vsA1 (Nat.succ.inj e)
    exact ⟨a, b, rfl⟩
theorem vsA3 {α : Type} : ∀ {vs : List α}, vs.length = 3 → ∃ a b c, vs = [a, b, c]
  | a :: vs, e => by
    obtain ⟨b, c, rfl⟩ := vsA2 (Nat.succ.inj e)
    exact ⟨a, b, c, rfl⟩
/-! facts of a heap, from what is written out of it -/
noncomputable def fdAt (K : Frag) (a : Addr) : FuncData := match K.lookup a with
  | some ⟨_, _, .func fd, _⟩ => fd
  | _ => default
noncomputable def isFn (K : Frag) (a : Addr) : Bool := match K.lookup a with
  | some ⟨.type "function", _, .func _, _⟩ => true
  | _ => false
theorem fn_get {K : Frag} {h : Heap} {a : Addr} (X : K.In h) (e : isFn K a = true) : ∃ o, h.get? a = some o ∧ o.cls = .type "function" ∧ o.data = .func (fdAt K a) := by
  unfold isFn at e
  unfold fdAt
  split at e
  · rename_i q
    rw [q]
    exact ⟨_, X _ _ q, rfl, rfl⟩
  · cases e
noncomputable def codeQ (K : Frag) (v : Value) : Option Str := match v with
  | .ref c => (match K.lookup c with
    | some ⟨_, _, .fields vs, _⟩ => (match (vs[1]? : Option Value) with | some (.str q _) => some q | _ => none)
    | _ => none)
  | _ => none
theorem code_of {K : Frag} {h : Heap} {v : Value} {q : Str} (X : K.In h) (e : codeQ K v = some q) : h.CodeRec v q := by
  unfold codeQ at e
  split at e
  · split at e
    · rename_i k
      split at e
      · rename_i k2
        cases e
        exact ⟨_, _, _, _, rfl, X _ _ k, rfl, k2⟩
      · cases e
    · cases e
  · cases e
theorem fnAt_K {K : Frag} {h : Heap} {a : Addr} {sc : Scope} {ps : List Str} {body : List Stmt} (X : K.In h) (e1 : isFn K a = true) (e2 : (fdAt K a).closure = []) (e3 : (fdAt K a).globals = mainGlobals) (e4 : (fdAt K a).builtins = builtinsNs)
    (e5 : (fdAt K a).body = .stmts body) (e6 : (fdAt K a).scope = sc) (e7 : codeQ K (fdAt K a).code = some (fdAt K a).qualname) (e8 : ∀ vs : List Value, vs.length = ps.length → bindArgs (fdAt K a) ⟨vs, []⟩ = pure (ps.zip vs)) : FnAt h a sc ps body := by
  obtain ⟨o, h1, _, h2⟩ := fn_get X e1
  exact ⟨o, _, h1, h2, e2, e3, e4, e5, e6, code_of X e7, e8⟩
theorem ns_some_of {K : Frag} {h : Heap} {N : Addr} {mg : Str → Option Value} {n : Str} {v : Value} (X : K.In h) (G : h.Ns N mg) (e : nsIn K N n = some (some v)) : mg n = some v := by
  obtain ⟨o, es, ep, ho, hd, _, hf⟩ := G
  unfold nsIn at e
  split at e
  · rename_i c d es' n' sl q
    have := X _ _ q
    rw [ho] at this
    cases this
    cases hd
    split at e
    · rename_i en he
      cases e
      rw [← hf]
      unfold nsFind findBy
      rw [← Array.find?_toList, he]
      rfl
    · split at e <;> cases e
  · cases e
/-- the heap, one address hidden -/
noncomputable def hidden (h : Heap) (a : Addr) : Heap := { h with objs := h.objs.setIfInBounds a ⟨.none, none, .freed, #[]⟩ }
theorem hidden_at (h : Heap) (a : Addr) : (hidden h a).get? a = none := by
  unfold hidden Heap.get?
  by_cases q : a < h.objs.size
  · simp [q]
  · simp [q]
theorem hidden_ne (h : Heap) {a b : Addr} (n : b ≠ a) : (hidden h a).get? b = h.get? b := by
  unfold hidden Heap.get?
  simp [Ne.symm n]
theorem hidden_in {h : Heap} {K : Frag} {a : Addr} (X : K.In h) (e : K.lookup a = none) : K.In (hidden h a) := fun b o q => by
  rw [hidden_ne h (fun r => by rw [r, e] at q; cases q)]
  exact X b o q
theorem hidden_ns {h : Heap} {a b : Addr} {m : Str → Option Value} (n : b ≠ a) (G : h.Ns b m) : (hidden h a).Ns b m := by
  obtain ⟨o, es, ep, e, r⟩ := G
  exact ⟨o, es, ep, (hidden_ne h n).trans e, r⟩
theorem hidden_old {h : Heap} {a b : Addr} {o : Obj} (e : (hidden h a).get? b = some o) : h.get? b = some o := by
  by_cases q : b = a
  · rw [q, hidden_at] at e; cases e
  · rwa [hidden_ne h q] at e
section
variable {P : Params} {p : Program} {loose : List Str} {mean : ExcName → Option Value} {mg mb : Str → Option Value} {h : Heap}
theorem glb_of {x : Str} {v : Value} (X : (KLaw P).In h) (G : h.Ns mainGlobals mg) (e : nsIn (KLaw P) mainGlobals x = some (some v)) : Glb h x v := ⟨mg, G, ns_some_of X G e⟩
theorem blt_of {x : Str} {v : Value} (X : (KLaw P).In h) (G : h.Ns mainGlobals mg) (Bn : h.Ns builtinsNs mb) (hb : ∀ x : Str, x ≠ "__name__" → mb x = bootBuiltins x) (e : nsIn (KLaw P) mainGlobals x = some none) (hn : x ≠ "__name__") (hv : bootBuiltins x = some v) : Blt h x v :=
  ⟨mg, mb, G, ns_none_of X G e, Bn, (hb x hn).trans hv⟩
end
theorem hidden_fnAt {h : Heap} {a : Addr} {sc : Scope} {ps : List Str} {body : List Stmt} (h93 : h.get? 93 = some (tabObj #[])) (F : FnAt h a sc ps body) : FnAt (hidden h 93) a sc ps body := by
  obtain ⟨o, fd, e1, e2, e3, e4, e5, e6, e7, ⟨c, oc, vs, t, q1, q2, q3, q4⟩, e9⟩ := F.at_
  have n1 : a ≠ 93 := fun q => by
    rw [q, h93] at e1
    cases e1
    cases e2
  have n2 : c ≠ 93 := fun q => by
    rw [q, h93] at q2
    cases q2
    cases q3
    cases q4
  exact ⟨o, fd, (hidden_ne h n1).trans e1, e2, e3, e4, e5, e6, e7, ⟨c, oc, vs, t, q1, (hidden_ne h n2).trans q2, q3, q4⟩, e9⟩
noncomputable abbrev recT (k : Nat) (nm : Str) : DefRec := ⟨nm, fdParams (top k), fdBody (top k), fdScope (top k), fdPos (top k)⟩
theorem fnAt_T {loose : List Str} {mean : ExcName → Option Value} {mg mb : Str → Option Value} {h : Heap} {a : Addr} {ps : List Str} (T : Top view0 loose mean mg mb h) (j k : Nat) (nm : Str) (hj : (recsOf view0)[j]? = some (recT k nm)) (hm : mg nm = some (.ref a))
    (hb : ∀ (pm code doc : Value) (vs : List Value), vs.length = ps.length → bindArgs (Calls.docDef nm (fdParams (top k)) (fdBody (top k)) (fdScope (top k)) pm code doc) ⟨vs, []⟩ = pure (ps.zip vs)) : FnAt h a (fdScope (top k)) ps (fdBody (top k)) := by
  obtain ⟨a', o, pm, code, doc, e1, e2, e3, e4⟩ := T.fn _ (List.mem_of_getElem? hj)
  have : a' = a := by
    have := e1.symm.trans hm
    cases this
    rfl
  subst this
  exact ⟨o, _, e2, e3, rfl, rfl, rfl, rfl, rfl, e4, hb pm code doc⟩
section
variable {P : Params} {p : Program} {loose : List Str} {mean : ExcName → Option Value} {mg mb : Str → Option Value} {h : Heap}
theorem fa_rgb (X : (KLaw P).In h) (T : Top view0 loose mean mg mb h) : FnAt h 21 (fdScope (top 1)) ["r", "g", "b"] (fdBody (top 1)) := by
  refine fnAt_T T 0 1 "rgb_to_hsv" (by kernel_rfl) (ns_some_of X T.g (by kernel_rfl)) fun pm code doc vs hl => ?_
  obtain ⟨a, b, c, rfl⟩ := vsA3 hl
  kernel_rfl
theorem fa_hsv (X : (KLaw P).In h) (T : Top view0 loose mean mg mb h) : FnAt h 28 (fdScope (top 2)) ["h", "s", "v"] (fdBody (top 2)) := by
  refine fnAt_T T 1 2 "hsv_to_rgb" (by kernel_rfl) (ns_some_of X T.g (by kernel_rfl)) fun pm code doc vs hl => ?_
  obtain ⟨a, b, c, rfl⟩ := vsA3 hl
  kernel_rfl
theorem fa_esc (X : (KLaw P).In h) (T : Top view0 loose mean mg mb h) : FnAt h 35 (fdScope (top 4)) ["addr"] (fdBody (top 4)) := by
  refine fnAt_T T 2 4 "_iter_escaped_chars" (by kernel_rfl) (ns_some_of X T.g (by kernel_rfl)) fun pm code doc vs hl => ?_
  obtain ⟨a, rfl⟩ := vsA1 hl
  kernel_rfl
theorem fa_strip (X : (KLaw P).In h) (T : Top view0 loose mean mg mb h) : FnAt h 42 (fdScope (top 5)) ["addr"] (fdBody (top 5)) := by
  refine fnAt_T T 3 5 "_strip_quoted_realnames" (by kernel_rfl) (ns_some_of X T.g (by kernel_rfl)) fun pm code doc vs hl => ?_
  obtain ⟨a, rfl⟩ := vsA1 hl
  kernel_rfl
theorem fa_check (X : (KLaw P).In h) (T : Top view0 loose mean mg mb h) : FnAt h 49 (fdScope (top 6)) ["addr"] (fdBody (top 6)) := by
  refine fnAt_T T 4 6 "_check_parenthesis" (by kernel_rfl) (ns_some_of X T.g (by kernel_rfl)) fun pm code doc vs hl => ?_
  obtain ⟨a, rfl⟩ := vsA1 hl
  kernel_rfl
theorem fa_stream (X : (KLaw P).In h) : FnAt h 98 (fdScope (top 10)) ["signs"] (fdBody (top 10)) := by
  refine fnAt_K X (by kernel_rfl) (by kernel_rfl) (by kernel_rfl) (by kernel_rfl) (by kernel_rfl) (by kernel_rfl) (by kernel_rfl) fun vs hl => ?_
  obtain ⟨a, rfl⟩ := vsA1 hl
  kernel_rfl
theorem fa_places (X : (KLaw P).In h) (T : Top view0 loose mean mg mb h) : FnAt h 103 (fdScope (top 11)) ["heap"] (fdBody (top 11)) := by
  refine fnAt_T T 6 11 "_law_places" (by kernel_rfl) (ns_some_of X T.g (by kernel_rfl)) fun pm code doc vs hl => ?_
  obtain ⟨a, rfl⟩ := vsA1 hl
  kernel_rfl
theorem fa_word (X : (KLaw P).In h) (T : Top view0 loose mean mg mb h) : FnAt h 110 (fdScope (top 12)) ["hue", "share", "top"] (fdBody (top 12)) := by
  refine fnAt_T T 7 12 "_law_word" (by kernel_rfl) (ns_some_of X T.g (by kernel_rfl)) fun pm code doc vs hl => ?_
  obtain ⟨a, b, c, rfl⟩ := vsA3 hl
  kernel_rfl
theorem fa_text (X : (KLaw P).In h) (T : Top view0 loose mean mg mb h) : FnAt h 115 (fdScope (top 13)) ["words"] (fdBody (top 13)) := by
  refine fnAt_T T 8 13 "_law_text" (by kernel_rfl) (ns_some_of X T.g (by kernel_rfl)) fun pm code doc vs hl => ?_
  obtain ⟨a, rfl⟩ := vsA1 hl
  kernel_rfl
theorem fa_told (X : (KLaw P).In h) (T : Top view0 loose mean mg mb h) : FnAt h 122 (fdScope (top 14)) ["word"] (fdBody (top 14)) := by
  refine fnAt_T T 9 14 "_law_told" (by kernel_rfl) (ns_some_of X T.g (by kernel_rfl)) fun pm code doc vs hl => ?_
  obtain ⟨a, rfl⟩ := vsA1 hl
  kernel_rfl
theorem fa_due (X : (KLaw P).In h) (T : Top view0 loose mean mg mb h) : FnAt h 127 (fdScope (top 15)) ["hues", "shares", "tops"] (fdBody (top 15)) := by
  refine fnAt_T T 10 15 "_law_due" (by kernel_rfl) (ns_some_of X T.g (by kernel_rfl)) fun pm code doc vs hl => ?_
  obtain ⟨a, b, c, rfl⟩ := vsA3 hl
  kernel_rfl
theorem fa_painted (X : (KLaw P).In h) (T : Top view0 loose mean mg mb h) : FnAt h 132 (fdScope (top 16)) ["hue", "share", "top"] (fdBody (top 16)) := by
  refine fnAt_T T 11 16 "_law_painted" (by kernel_rfl) (ns_some_of X T.g (by kernel_rfl)) fun pm code doc vs hl => ?_
  obtain ⟨a, b, c, rfl⟩ := vsA3 hl
  kernel_rfl
theorem fa_line (X : (KLaw P).In h) (T : Top view0 loose mean mg mb h) : FnAt h 137 (fdScope (top 17)) ["lexer", "coming", "counters"] (fdBody (top 17)) := by
  refine fnAt_T T 12 17 "_law_line" (by kernel_rfl) (ns_some_of X T.g (by kernel_rfl)) fun pm code doc vs hl => ?_
  obtain ⟨a, b, c, rfl⟩ := vsA3 hl
  kernel_rfl
theorem fa_takes (X : (KLaw P).In h) (T : Top view0 loose mean mg mb h) : FnAt h 144 (fdScope (top 18)) ["ring", "coming"] (fdBody (top 18)) := by
  refine fnAt_T T 13 18 "_law_takes" (by kernel_rfl) (ns_some_of X T.g (by kernel_rfl)) fun pm code doc vs hl => ?_
  obtain ⟨a, b, rfl⟩ := vsA2 hl
  kernel_rfl
theorem fa_changed (X : (KLaw P).In h) (T : Top view0 loose mean mg mb h) : FnAt h 151 (fdScope (top 19)) ["ring", "k"] (fdBody (top 19)) := by
  refine fnAt_T T 14 19 "_law_changed" (by kernel_rfl) (ns_some_of X T.g (by kernel_rfl)) fun pm code doc vs hl => ?_
  obtain ⟨a, b, rfl⟩ := vsA2 hl
  kernel_rfl
theorem fa_law (X : (KLaw P).In h) (T : Top view0 loose mean mg mb h) : FnAt h 156 (fdScope (top 20)) ["script"] (fdBody (top 20)) := by
  refine fnAt_T T 15 20 "law" (by kernel_rfl) (ns_some_of X T.g (by kernel_rfl)) fun pm code doc vs hl => ?_
  obtain ⟨a, rfl⟩ := vsA1 hl
  kernel_rfl
theorem fm_init (X : (KLaw P).In h) : FnAt h 63 (fdScope (mth 0)) ["self", "fp"] (fdBody (mth 0)) := by
  refine fnAt_K X (by kernel_rfl) (by kernel_rfl) (by kernel_rfl) (by kernel_rfl) (by kernel_rfl) (by kernel_rfl) (by kernel_rfl) fun vs hl => ?_
  obtain ⟨a, b, rfl⟩ := vsA2 hl
  kernel_rfl
theorem fm_read (X : (KLaw P).In h) : FnAt h 70 (fdScope (mth 1)) ["self"] (fdBody (mth 1)) := by
  refine fnAt_K X (by kernel_rfl) (by kernel_rfl) (by kernel_rfl) (by kernel_rfl) (by kernel_rfl) (by kernel_rfl) (by kernel_rfl) fun vs hl => ?_
  obtain ⟨a, rfl⟩ := vsA1 hl
  kernel_rfl
theorem fm_tok (X : (KLaw P).In h) : FnAt h 77 (fdScope (mth 2)) ["self"] (fdBody (mth 2)) := by
  refine fnAt_K X (by kernel_rfl) (by kernel_rfl) (by kernel_rfl) (by kernel_rfl) (by kernel_rfl) (by kernel_rfl) (by kernel_rfl) fun vs hl => ?_
  obtain ⟨a, rfl⟩ := vsA1 hl
  kernel_rfl
theorem fm_push (X : (KLaw P).In h) : FnAt h 84 (fdScope (mth 3)) ["self", "token"] (fdBody (mth 3)) := by
  refine fnAt_K X (by kernel_rfl) (by kernel_rfl) (by kernel_rfl) (by kernel_rfl) (by kernel_rfl) (by kernel_rfl) (by kernel_rfl) fun vs hl => ?_
  obtain ⟨a, b, rfl⟩ := vsA2 hl
  kernel_rfl
theorem base_of (X0 : (KLaw P).In h) (T : Top view0 loose mean mg mb h) (h93 : h.get? 93 = some (tabObj #[])) (X : (KLaw P).In (hidden h 93)) (lim : (hidden h 93).NoLimit) (G : (hidden h 93).Ns mainGlobals mg) (Bn : (hidden h 93).Ns builtinsNs mb) (hb : ∀ x : Str, x ≠ "__name__" → mb x = bootBuiltins x) : Base (hidden h 93) where
  lim := lim
  max := blt_of X G Bn hb (by kernel_rfl) (by decide) rfl
  min := blt_of X G Bn hb (by kernel_rfl) (by decide) rfl
  round := blt_of X G Bn hb (by kernel_rfl) (by decide) rfl
  ord := blt_of X G Bn hb (by kernel_rfl) (by decide) rfl
  chr := blt_of X G Bn hb (by kernel_rfl) (by decide) rfl
  len := blt_of X G Bn hb (by kernel_rfl) (by decide) rfl
  sum := blt_of X G Bn hb (by kernel_rfl) (by decide) rfl
  iter := blt_of X G Bn hb (by kernel_rfl) (by decide) rfl
  int := blt_of X G Bn hb (by kernel_rfl) (by decide) rfl
  range := blt_of X G Bn hb (by kernel_rfl) (by decide) rfl
  list := blt_of X G Bn hb (by kernel_rfl) (by decide) rfl
  enumerate := blt_of X G Bn hb (by kernel_rfl) (by decide) rfl
  rgb := ⟨hidden_fnAt h93 (fa_rgb X0 T), glb_of X G (by kernel_rfl)⟩
  hsv := ⟨hidden_fnAt h93 (fa_hsv X0 T), glb_of X G (by kernel_rfl)⟩
  esc := ⟨hidden_fnAt h93 (fa_esc X0 T), glb_of X G (by kernel_rfl)⟩
  strip := ⟨hidden_fnAt h93 (fa_strip X0 T), glb_of X G (by kernel_rfl)⟩
  check := ⟨hidden_fnAt h93 (fa_check X0 T), glb_of X G (by kernel_rfl)⟩
  stream := ⟨fa_stream X, glb_of X G (by kernel_rfl)⟩
  places := ⟨hidden_fnAt h93 (fa_places X0 T), glb_of X G (by kernel_rfl)⟩
  word := ⟨hidden_fnAt h93 (fa_word X0 T), glb_of X G (by kernel_rfl)⟩
  text := ⟨hidden_fnAt h93 (fa_text X0 T), glb_of X G (by kernel_rfl)⟩
  told := ⟨hidden_fnAt h93 (fa_told X0 T), glb_of X G (by kernel_rfl)⟩
  due := ⟨hidden_fnAt h93 (fa_due X0 T), glb_of X G (by kernel_rfl)⟩
  painted := ⟨hidden_fnAt h93 (fa_painted X0 T), glb_of X G (by kernel_rfl)⟩
  line := ⟨hidden_fnAt h93 (fa_line X0 T), glb_of X G (by kernel_rfl)⟩
  takes := ⟨hidden_fnAt h93 (fa_takes X0 T), glb_of X G (by kernel_rfl)⟩
  changed := ⟨hidden_fnAt h93 (fa_changed X0 T), glb_of X G (by kernel_rfl)⟩
end
end
section
noncomputable def clsD (o : Obj) : ClassData := match o.data with
  | .cls cd => cd
  | _ => default
theorem findObj_of {K : Frag} {C : Addr} {od : Obj} {name : Str} {cd : ClassData} {g f : Value} (h1 : clsIn K C = some cd) (h2 : findIn K (.ref C) name = some (some f)) (h3 : specialIn K f "__get__" = some (some g)) (h4 : takesIn K f = some false)
    (h5 : lookIn name od = some none) (h6 : copiedNames.contains name = false) : findObj K C (some od) name = some (.bind g f) := by
  have h7 : ownOf cd (some od) name = some none := by
    unfold W.ownOf
    split
    · exact h5
    · rfl
  unfold findObj
  simp only [h1, h2, h3, h4, h6, h7, Option.bind_some, Bool.false_and]
  rfl
section
variable {P : Params} {mg mb : Str → Option Value} {h : Heap}
theorem lexBase_of (X : (KLaw P).In h) (G : h.Ns mainGlobals mg) (hd : h.get? 93 = none) (hb : h.BuiltinsAt mg 93) : LexBase h where
  cls := X 87 _ (by kernel_rfl)
  ns := by
    have N : h.Ns 86 (h.nsMap 86) := .of_isNs (isNs_of_in X (by kernel_rfl))
    refine ⟨_, N, ns_some_of X N (by kernel_rfl), ns_some_of X N (by kernel_rfl), ns_some_of X N (by kernel_rfl), ns_some_of X N (by kernel_rfl), fun n hn => ?_⟩
    simp only [lexAbsent, List.mem_cons, List.not_mem_nil, or_false] at hn
    rcases hn with rfl | rfl | rfl | rfl | rfl | rfl | rfl | rfl <;> exact ns_none_of X N (by kernel_rfl)
  fns := by
    intro a ha
    simp only [List.mem_cons, List.not_mem_nil, or_false] at ha
    rcases ha with rfl | rfl | rfl | rfl
    · obtain ⟨o, h1, h2, _⟩ := fn_get X (a := 63) (by kernel_rfl); exact ⟨o, h1, h2⟩
    · obtain ⟨o, h1, h2, _⟩ := fn_get X (a := 70) (by kernel_rfl); exact ⟨o, h1, h2⟩
    · obtain ⟨o, h1, h2, _⟩ := fn_get X (a := 77) (by kernel_rfl); exact ⟨o, h1, h2⟩
    · obtain ⟨o, h1, h2, _⟩ := fn_get X (a := 84) (by kernel_rfl); exact ⟨o, h1, h2⟩
  init := fm_init X
  read := fm_read X
  tok := fm_tok X
  push := fm_push X
  glb := glb_of X G (by kernel_rfl)
  frag := ⟨KLaw P, X, by kernel_rfl, by kernel_rfl, by kernel_rfl, fun od hod => findObj_of (cd := clsD lexCls) (by kernel_rfl) (by kernel_rfl) (by kernel_rfl) (by kernel_rfl) hod (by decide +kernel)⟩
  hide := hd
  code := codeHd_of_K X (by kernel_rfl)
  stream := by
    obtain ⟨o, h1, _, h2⟩ := fn_get X (a := 98) (by kernel_rfl)
    exact ⟨o, _, h1, h2, by kernel_rfl, by kernel_rfl⟩
  bu := ⟨mg, G, hb⟩
theorem ne_get {a b : Addr} {o o' : Obj} (e : h.get? a = some o) (e' : h.get? b = some o') (n : o ≠ o') : a ≠ b := fun q => n (by rw [q, e'] at e; exact (Option.some.inj e).symm)
theorem both_of {loose : List Str} {mean : ExcName → Option Value} (X : (KLaw P).In h) (T : Top view0 loose mean mg mb h) (h93 : h.get? 93 = some (tabObj #[])) : Base (hidden h 93) ∧ LexBase (hidden h 93) ∧ FnAt (hidden h 93) 156 (fdScope (top 20)) ["script"] (fdBody (top 20)) := by
  have X' : (KLaw P).In (hidden h 93) := hidden_in X (by kernel_rfl)
  have G' : (hidden h 93).Ns mainGlobals mg := hidden_ns (by decide) T.g
  have B' : (hidden h 93).Ns builtinsNs mb := hidden_ns (by decide) T.b
  have N' : (hidden h 93).NoLimit := by
    obtain ⟨mc, h1, h2⟩ := T.nolimit
    exact ⟨mc, hidden_ns (by decide) h1, h2⟩
  refine ⟨base_of X T h93 X' N' G' B' T.builtins, lexBase_of X' G' (hidden_at h 93) ?_, hidden_fnAt h93 (fa_law X T)⟩
  obtain ⟨bm, ob, e1, n1, e2, c1, d1, p1⟩ := T.bmain
  obtain ⟨og, es, ep, eg, dg, _⟩ := T.g
  have n2 : bm ≠ mainGlobals := ne_get e2 eg fun q => by rw [q, dg] at p1; cases p1
  have n3 : bm ≠ 93 := ne_get e2 h93 fun q => by rw [q] at c1; cases c1
  exact ⟨bm, ob, e1, n1, n2, n3, (hidden_ne h n3).trans e2, c1, d1, p1⟩
end
end
section
theorem law_call {hS : Heap} {prog : Program} {w : World} {script : List Int} (B : Base hS) (L : LexBase hS) (F : FnAt hS 156 (fdScope (top 20)) ["script"] (fdBody (top 20))) (hlen : script.length ≤ 63) :
    OpW (tabW hS L.hide) prog w 13 false (Call (.ref 156)) [dI script] (.bool true) true :=
  fun_okLW (W := tabW hS L.hide) (st := false) (st₁ := true) (vars := lwV) (ρ0 := lwZ script) 22 B.lim F rfl rfl (by decide +kernel) (law_body (m := 0) B L hlen)
theorem room_caller : Room callerA 13 := ⟨rfl, by decide, by decide⟩
theorem reps_ints {P : Params} {U : Addr → Prop} {h h' : Heap} : ∀ {l : List Int} {vs : List Value}, WellAll P h vs (ofPys (l.map PyData.int)) → Reps U h' vs (l.map D.int)
  | [], vs, q => by cases q; exact .nil
  | x :: l, vs, q => by
    cases q with
    | cons q1 q2 =>
      cases q1
      exact .cons (.int _ _) (reps_ints q2)
theorem rep_ints {P : Params} {h : Heap} {U : Addr → Prop} {a : Addr} {l : List Int} (q : Well P h (.ref a) (ofPy (.list (l.map PyData.int)))) (hU : ¬ U a) : Rep U h (.ref a) (dI l) := by
  unfold ofPy at q
  cases q with
  | list e r => exact .list a _ _ hU ⟨_, e⟩ (reps_ints r)
theorem notTab {P : Params} {h : Heap} {a : Addr} {l : List Int} (q : Well P h (.ref a) (ofPy (.list (l.map PyData.int)))) (h93 : h.get? 93 = some (tabObj #[])) : a ≠ 93 := by
  unfold ofPy at q
  cases q with
  | list e r => exact fun q => by rw [q, h93] at e; cases e
theorem code_table {h : Heap} (C : CodeHd h 97 93) : isCodeTable h 93 := by
  obtain ⟨o, vs, _, _, _, _, _, _, _, e1, e2, e3, e4, _⟩ := C
  exact ⟨97, o, vs, e1, e2, e3, e4⟩
theorem old_of {s s' : Shared} (x : Ext (fun b => b = 93) s s') (h93 : s.heap.get? 93 = some (tabObj #[])) (C : CodeHd s.heap 97 93) {ps : Array Value} (e : s'.heap.get? 93 = some (tabObj ps)) : OldK s.heap s'.heap := by
  refine ⟨fun b o eb => ?_, fun b o eb => ?_⟩
  · by_cases q : b = 93
    · subst q
      rw [h93] at eb
      cases eb
      exact .inr (.inl ⟨code_table C, rfl, #[], ps, rfl, by rw [e]; simp [tabObj]⟩)
    · exact .inl (x.keep b o q eb)
  · by_cases q : b = 93
    · subst q
      exact ⟨_, e⟩
    · exact ⟨o, x.keep b o q eb⟩
set_option maxHeartbeats 8000000 in
theorem law_holds : PySem.Challenge.rw_tp0011_01.Holds := by
  refine hd0 (by
    intro w s₀ s₁ mg mb G Y fa o pm cd doc dV kV ho hd hcd hD hmg hg args vals as hpre hlay hrd hwl hlo
    have KX := km_in_of Y
    have h93 := km_tabs_of Y 93 (.head _)
    refine Ground.open G ?_
    intro T B D TE TW
    clear B D TE TW Y G hcd hD
    have hfa : fa = 156 := by
      have := mg_of (n := "law") (v := .ref 156) KX T.g (by kernel_rfl)
      have := hmg.symm.trans this
      cases this
      rfl
    subst hfa
    clear hmg ho hd
    wrow_args hpre hlay hrd hwl hlo
    rename_i l hs' hlay0 hL hr1 hl2 as1 as2 a vs1 as3 hIL hRA hW hRd hI hr2 hlen hT
    have hlen' : l.length ≤ 63 := by omega
    obtain ⟨Bs, Ls, hF⟩ := both_of KX T h93
    have hC := codeHd_of_K KX (c := 97) (P := 93) (by kernel_rfl)
    have hna := notTab hW h93
    have call := law_call (prog := Challenge.rw_tp0011_01.row.prog) (w := w) Bs Ls hF hlen' callerA (fun b => b = 93) s₁ [.ref a] room_caller (fun b o e => hidden_old e) (fun b m => m) (fun b m => ⟨_, m ▸ h93⟩) ⟨#[], h93, fun _ => rfl⟩ (.cons (rep_ints hW hna) .nil)
    refine wpAny_mono call (fun v s' z => ?_) (fun _ _ x => x.elim)
    obtain ⟨x, ⟨ps, e93, _⟩, hv⟩ := z
    cases hv
    refine ⟨.inl ⟨_, _, _, rfl, ?_, .bool true, ?_, ?_⟩, old_of x h93 hC e93, x.os, x.bare (.of_eq hg)⟩
    · intro cls
      rfl
    · first | rfl | wrow_post
    · exact fun _ => ⟨.nil, fun _ h => nomatch h⟩)
end
end Mine
theorem PySem.Challenge.cw_tp0011_01_holds : PySem.Challenge.rw_tp0011_01.Holds := by
  exact Mine.law_holds
