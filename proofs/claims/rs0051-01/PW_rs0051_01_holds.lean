import PyProof.Rows.All
import Wide.All
import OpenK.AllK
import Wide.FinOn
import PySem.Challenge.RW_rs0051_01
set_option Elab.async false
set_option genSizeOf false
section
open PySem PySem.W PySem.W.X PySem.W.ZRun PyProof.Rows
set_option Elab.async false
set_option autoImplicit false

namespace Mine

/-- frozen objects -/
noncomputable abbrev Fz := Addr → Option Obj
noncomputable def Fz.le (W W' : Fz) : Prop := ∀ a o, W a = some o → W' a = some o
theorem Fz.le.refl {W : Fz} : W.le W := fun _ _ h => h
theorem Fz.le.trans {W W' W'' : Fz} (h : W.le W') (h' : W'.le W'') : W.le W'' := fun a o e => h' a o (h a o e)
noncomputable def Good (W : Fz) (h : Heap) : Prop := ∀ a o, W a = some o → h.get? a = some o

inductive PV where
  | none
  | bool (b : Bool)
  | int (i : Int)
  | flt (b : UInt64)
  | str (s : Str)
  | dict (D : List (PyData × PyData))
  | list (l : List PV)
  | tup (l : List PV)

/-- a dict of ints to flat data -/
noncomputable def IntDict (o : Obj) (D : List (PyData × PyData)) : Prop :=
  (∃ es ep, o.data = .dict es ep ∧ 0 < es.size ∧ ∀ e ∈ es, ∃ i t, e.key = .int i t) ∧ ∃ kvs : List (Int × Value), (∀ (prog : Program) (w : World), o.IsDictOf (intKind prog w) kvs) ∧ PyProof.V.FlatPairs PyData.int kvs D

mutual
inductive Rep (W : Fz) : Value → PV → Prop where
  | none : Rep W .none .none
  | bool (b : Bool) : Rep W (.bool b) (.bool b)
  | int (i : Int) (t : Tok) : Rep W (.int i t) (.int i)
  | flt (b : UInt64) (t : Tok) : Rep W (.float b t) (.flt b)
  | str (x : Str) (t : Tok) : Rep W (.str x t) (.str x)
  | dict {a : Addr} {o : Obj} {D : List (PyData × PyData)} : W a = some o → (a == sysModules) = false → IntDict o D → Rep W (.ref a) (.dict D)
  | list {a : Addr} {vs : List Value} {n : Nat} {ps : List PV} : W a = some { cls := .type "list", data := .seq vs.toArray n } → Reps W vs ps → Rep W (.ref a) (.list ps)
  | tup {a : Addr} {vs : List Value} {n : Nat} {ps : List PV} : W a = some { cls := .type "tuple", data := .seq vs.toArray n } → Reps W vs ps → Rep W (.ref a) (.tup ps)
inductive Reps (W : Fz) : List Value → List PV → Prop where
  | nil : Reps W [] []
  | cons {v : Value} {p : PV} {vs : List Value} {ps : List PV} : Rep W v p → Reps W vs ps → Reps W (v :: vs) (p :: ps)
end

theorem Rep.mono {W W' : Fz} (h : W.le W') {v : Value} {p : PV} (r : Rep W v p) : Rep W' v p := by
  refine Rep.rec (motive_1 := fun v p _ => Rep W' v p) (motive_2 := fun vs ps _ => Reps W' vs ps) .none .bool .int .flt .str ?_ ?_ ?_ .nil ?_ r
  · intro a o D e h1 h2; exact .dict (h _ _ e) h1 h2
  · intro a vs n ps e _ ih; exact .list (h _ _ e) ih
  · intro a vs n ps e _ ih; exact .tup (h _ _ e) ih
  · intro v p vs ps _ _ ih1 ih2; exact .cons ih1 ih2
theorem Reps.ind {W : Fz} {M : List Value → List PV → Prop} {vs : List Value} {ps : List PV} (r : Reps W vs ps) (h0 : M [] []) (h1 : ∀ v p vs ps, Rep W v p → Reps W vs ps → M vs ps → M (v :: vs) (p :: ps)) : M vs ps :=
  Reps.rec (motive_1 := fun _ _ _ => True) (motive_2 := fun vs ps _ => M vs ps) trivial (fun _ => trivial) (fun _ _ => trivial) (fun _ _ => trivial) (fun _ _ => trivial) (fun _ _ _ => trivial) (fun _ _ _ => trivial) (fun _ _ _ => trivial) h0 (fun r rs _ ih => h1 _ _ _ _ r rs ih) r
theorem Reps.mono {W W' : Fz} (h : W.le W') {vs : List Value} {ps : List PV} (r : Reps W vs ps) : Reps W' vs ps := r.ind .nil fun _ _ _ _ r _ ih => .cons (r.mono h) ih
theorem Reps.length {W : Fz} {vs : List Value} {ps : List PV} (r : Reps W vs ps) : vs.length = ps.length := r.ind (M := fun vs ps => vs.length = ps.length) rfl fun _ _ _ _ _ _ ih => congrArg Nat.succ ih
theorem Reps.get {W : Fz} {vs : List Value} {ps : List PV} (r : Reps W vs ps) {i : Nat} {p : PV} (h : ps[i]? = some p) : ∃ v, vs[i]? = some v ∧ Rep W v p := by
  refine r.ind (M := fun vs ps => ∀ i, ps[i]? = some p → ∃ v, vs[i]? = some v ∧ Rep W v p) (fun i h => by simp at h) (fun v q vs ps r _ ih i h => ?_) i h
  cases i with
  | zero => cases h; exact ⟨v, rfl, r⟩
  | succ i => exact ih i h
theorem Reps.append {W : Fz} {vs vs' : List Value} {ps ps' : List PV} (r : Reps W vs ps) (h : Reps W vs' ps') : Reps W (vs ++ vs') (ps ++ ps') := r.ind (M := fun vs ps => Reps W (vs ++ vs') (ps ++ ps')) h fun _ _ _ _ r _ ih => .cons r ih

structure Stp (s s' : Shared) : Prop where
  keep : ∀ a o, s.heap.get? a = some o → s'.heap.get? a = some o
  os : s'.os = s.os
  gens : ∀ (g : Nat) (x : GenState), s.gens[g]? = some x → s'.gens[g]? = some x
  bare : AllBare s.gens → AllBare s'.gens
theorem Stp.refl {s : Shared} : Stp s s := ⟨fun _ _ h => h, rfl, fun _ _ h => h, fun h => h⟩
theorem Stp.trans {s s' s'' : Shared} (a : Stp s s') (b : Stp s' s'') : Stp s s'' :=
  ⟨fun x o h => b.keep x o (a.keep x o h), b.os.trans a.os, fun g x h => b.gens g x (a.gens g x h), fun h => b.bare (a.bare h)⟩
theorem Stp.toks {s : Shared} (t : Nat) : Stp s { s with toks := t } := ⟨fun _ _ h => h, rfl, fun _ _ h => h, fun h => h⟩
theorem Stp.heap {s : Shared} {h' : Heap} {t : Nat} (h : ∀ a o, s.heap.get? a = some o → h'.get? a = some o) : Stp s { s with heap := h', toks := t } :=
  ⟨h, rfl, fun _ _ h => h, fun h => h⟩

/-- how far a step has come: the world grown, by new objects alone -/
structure Res (W : Fz) (s : Shared) (W' : Fz) (s' : Shared) : Prop where
  le : W.le W'
  good : Good W' s'.heap
  stp : Stp s s'
  news : ∀ a o, W' a = some o → W a = none → s.heap.get? a = none
theorem Res.refl {W : Fz} {s : Shared} (g : Good W s.heap) : Res W s W s := ⟨.refl, g, .refl, fun a o h h' => by rw [h'] at h; cases h⟩
theorem Res.trans {W W' W'' : Fz} {s s' s'' : Shared} (a : Res W s W' s') (b : Res W' s' W'' s'') : Res W s W'' s'' := ⟨a.le.trans b.le, b.good, a.stp.trans b.stp, fun x o h h' => by
  cases e : W' x with
  | some o' => exact a.news x o' e h'
  | none =>
    have h1 := b.news x o h e
    cases q : s.heap.get? x with
    | none => rfl
    | some o' => rw [a.stp.keep x o' q] at h1; cases h1⟩
theorem Res.toks {W : Fz} {s : Shared} (g : Good W s.heap) (t : Nat) : Res W s W { s with toks := t } := ⟨.refl, g, .toks t, fun a o h h' => by rw [h'] at h; cases h⟩
theorem Res.heap {W : Fz} {s : Shared} {h' : Heap} {t : Nat} (g : Good W s.heap) (h : ∀ a o, s.heap.get? a = some o → h'.get? a = some o) : Res W s W { s with heap := h', toks := t } :=
  ⟨.refl, fun a o e => h a o (g a o e), .heap h, fun a o h h' => by rw [h'] at h; cases h⟩
/-- a new object frozen at once -/
noncomputable def Fz.add (W : Fz) (a : Addr) (o : Obj) : Fz := fun b => if b = a then some o else W b
theorem Fz.add_self {W : Fz} {a : Addr} {o : Obj} : W.add a o a = some o := by simp [Fz.add]
theorem Fz.add_ne {W : Fz} {a b : Addr} {o : Obj} (h : b ≠ a) : W.add a o b = W b := by simp [Fz.add, h]
theorem Fz.le_add {W : Fz} {a : Addr} {o : Obj} (h : W a = none) : W.le (W.add a o) := fun b o' e => by
  have : b ≠ a := fun q => by rw [q, h] at e; cases e
  rw [Fz.add_ne this]; exact e
theorem Good.size {W : Fz} {h : Heap} (g : Good W h) : W h.objs.size = none := by
  cases e : W h.objs.size with
  | none => rfl
  | some o => exact absurd (Heap.lt_size (g _ _ e)) (Nat.lt_irrefl _)
theorem Good.add {W : Fz} {h : Heap} {a : Addr} {o : Obj} (g : Good W h) (e : h.get? a = some o) : Good (W.add a o) h := fun b o' q => by
  by_cases hb : b = a
  · subst hb; rw [Fz.add_self] at q; cases q; exact e
  · rw [Fz.add_ne hb] at q; exact g b o' q
theorem Good.push {W : Fz} {h : Heap} (o : Obj) (g : Good W h) : Good W (h.push o) := fun a o' e => Heap.get?_push_of_some _ (g a o' e)
theorem Res.new {W : Fz} {s : Shared} (g : Good W s.heap) (o : Obj) (hf : o.isFreed = false) (t : Nat) : Res W s (W.add s.heap.objs.size o) { s with heap := s.heap.push o, toks := t } :=
  ⟨Fz.le_add g.size, (g.push o).add (Heap.get?_push_size _ hf), .heap fun _ _ e => Heap.get?_push_of_some _ e, fun a o' h h' => by
    by_cases ha : a = s.heap.objs.size
    · subst ha
      cases q : s.heap.get? s.heap.objs.size with
      | none => rfl
      | some o'' => exact absurd (Heap.lt_size q) (Nat.lt_irrefl _)
    · rw [Fz.add_ne ha, h'] at h; cases h⟩

/-- where a name's value lies -/
noncomputable def NameIs (env : Env) (h : Heap) (x : Str) (v : Value) : Prop :=
  (env.kindOf x = some .local ∧ ∃ m, h.Ns env.locals m ∧ m x = some v) ∨ (env.kindOf x = some .cell ∧ ∃ c, env.cells.lookup x = some c ∧ h.IsCell c (some v))
theorem NameIs.keeps {env : Env} {h h' : Heap} {x : Str} {v : Value} (n : NameIs env h x v) (k : ∀ a o, h.get? a = some o → h'.get? a = some o) : NameIs env h' x v := by
  rcases n with ⟨e, m, hn, hv⟩ | ⟨e, c, hc, hv⟩
  · exact .inl ⟨e, m, hn.keeps k, hv⟩
  · exact .inr ⟨e, c, hc, hv.keeps k⟩

inductive Slot where
  | unset
  | val (p : PV)
  | own (l : List PV)

set_option genInjectivity false in
/-- the facts of the run that never change: the text's top -/
structure Top0 where
  prog : Program
  w : World
  W₀ : Fz
  mg : Str → Option Value
  mb : Str → Option Value
  g : ∀ h, Good W₀ h → h.Ns mainGlobals mg
  b : ∀ h, Good W₀ h → h.Ns builtinsNs mb
  lim : ∀ h, Good W₀ h → h.NoLimit

set_option genInjectivity false in
/-- a block's names: the slots, the first wr of them its own to store; the table of its names -/
structure Lay where
  slots : List Str
  wr : Nat
  names : List (Str × NameKind)

structure Room (A : Around) (n : Nat) : Prop where
  handled : A.handled = none
  depth : A.depth + n < 900
  units : A.units + 20 * n < 9000

structure EnvOk (X : Top0) (env : Env) (lay : Lay) (ρ : List Slot) (W : Fz) (s : Shared) : Prop where
  good : Good W s.heap
  base : X.W₀.le W
  kind : env.scope.kind = .function
  glob : env.globals = mainGlobals
  blt : env.builtins = builtinsNs
  names : env.scope.names = lay.names
  cellsAt : ∀ x, lay.names.lookup x = some .cell → ∃ c, env.cells.lookup x = some c
  slot : ∀ (i : Nat) (x : Str) (p : PV), lay.slots[i]? = some x → ρ[i]? = some (Slot.val p) → ∃ v, NameIs env s.heap x v ∧ Rep W v p
theorem EnvOk.res {X : Top0} {env : Env} {lay : Lay} {ρ : List Slot} {W W' : Fz} {s s' : Shared} (e : EnvOk X env lay ρ W s) (r : Res W s W' s') : EnvOk X env lay ρ W' s' :=
  ⟨r.good, e.base.trans r.le, e.kind, e.glob, e.blt, e.names, e.cellsAt, fun i x p hl hr => let ⟨v, hv, hp⟩ := e.slot i x p hl hr; ⟨v, hv.keeps r.stp.keep, hp.mono r.le⟩⟩
theorem EnvOk.kindOf {X : Top0} {env : Env} {lay : Lay} {ρ : List Slot} {W : Fz} {s : Shared} (e : EnvOk X env lay ρ W s) (x : Str) : env.kindOf x = lay.names.lookup x := by
  unfold Env.kindOf; rw [e.names]
theorem EnvOk.good0 {X : Top0} {env : Env} {lay : Lay} {ρ : List Slot} {W : Fz} {s : Shared} (e : EnvOk X env lay ρ W s) : Good X.W₀ s.heap := fun a o h => e.good a o (e.base a o h)

noncomputable abbrev NoE : Value → Shared → Prop := fun _ _ => False
noncomputable abbrev Den := List Slot → Option PV

/-- what is left to show behind an evaluation -/
noncomputable abbrev After (W : Fz) (s : Shared) (p : PV) (Q : Value → Shared → Prop) : Prop := ∀ v s' W', Res W s W' s' → Rep W' v p → Q v s'

noncomputable def EOk (X : Top0) (n : Nat) (lay : Lay) (e : Expr) (d : Den) : Prop :=
  ∀ (A : Around) (env : Env) (W : Fz) (ρ : List Slot) (s : Shared) (p : PV) (Q : Value → Shared → Prop),
    Room A n → EnvOk X env lay ρ W s → d ρ = some p → After W s p Q → wpAny (model X.prog X.w) A (eval e env) Q NoE s
/-- a test -/
noncomputable def TOk (X : Top0) (n : Nat) (lay : Lay) (e : Expr) (d : List Slot → Option Bool) : Prop :=
  ∀ (A : Around) (env : Env) (W : Fz) (ρ : List Slot) (s : Shared) (b : Bool) (Q : Bool → Shared → Prop),
    Room A n → EnvOk X env lay ρ W s → d ρ = some b → (∀ s' W', Res W s W' s' → Q b s') → wpAny (model X.prog X.w) A (isTrue e env (eval e env)) Q NoE s

theorem Room.le {A : Around} {m n : Nat} (r : Room A n) (h : m ≤ n) : Room A m := ⟨r.handled, by have := r.depth; lia, by have := r.units; lia⟩

section
variable {X : Top0} {n : Nat} {lay : Lay}

theorem EOk.up {m : Nat} {e : Expr} {d : Den} (h : EOk X m lay e d) (hm : m ≤ n) : EOk X n lay e d := fun A env W ρ s p Q r => h A env W ρ s p Q (r.le hm)

/- constants -/
theorem e_none {k : Nat} {pos : Pos} : EOk X n lay (.Constant .none k pos) fun _ => some .none := by
  intro A env W ρ s p Q r e hd hQ; cases hd
  exact Constant_none (hQ _ _ _ (.refl e.good) .none)
theorem e_bool {c : Bool} {k : Nat} {pos : Pos} : EOk X n lay (.Constant (.bool c) k pos) fun _ => some (.bool c) := by
  intro A env W ρ s p Q r e hd hQ; cases hd
  exact Constant_bool (hQ _ _ _ (.refl e.good) (.bool _))
theorem e_int {i : Int} {k : Nat} {pos : Pos} : EOk X n lay (.Constant (.int i) k pos) fun _ => some (.int i) := by
  intro A env W ρ s p Q r e hd hQ; cases hd
  exact wpAny_Constant_int (hQ _ _ _ (.toks e.good _) (.int _ _))
theorem e_flt {b : UInt64} {k : Nat} {pos : Pos} : EOk X n lay (.Constant (.float b) k pos) fun _ => some (.flt b) := by
  intro A env W ρ s p Q r e hd hQ; cases hd
  exact fun _ _ _ => hQ _ _ _ (.toks e.good _) (.flt _ _)
theorem e_str {x : Str} {k : Nat} {pos : Pos} : EOk X n lay (.Constant (.str x) k pos) fun _ => some (.str x) := by
  intro A env W ρ s p Q r e hd hQ; cases hd
  exact fun _ _ _ => hQ _ _ _ (.toks e.good _) (.str _ _)

/- names -/
noncomputable def dName (i : Nat) : Den := fun ρ => match ρ[i]? with | some (.val p) => some p | _ => none
theorem loadName_is {A : Around} {env : Env} {x : Str} {v : Value} {s : Shared} {Q : Value → Shared → Prop} (hk : env.scope.kind = .function) (n : NameIs env s.heap x v) (h : Q v s) :
    wpAny (model X.prog X.w) A (loadName env x) Q NoE s := by
  rcases n with ⟨e, m, hn, hv⟩ | ⟨e, c, hc, hv⟩
  · exact wpAny_loadName_local hk e hn hv h
  · exact wpAny_loadName_cell hk e hc hv h
theorem e_name {x : Str} {pos : Pos} (i : Nat) (hx : lay.slots[i]? = some x) (hd : (x == ("__debug__" : Str)) = false := by decide) : EOk X n lay (.Name x pos) (dName i) := by
  intro A env W ρ s p Q r e hd' hQ
  unfold dName at hd'
  split at hd'
  · rename_i q hq
    cases hd'
    obtain ⟨v, hv, hp⟩ := e.slot i x _ hx hq
    exact wpAny_Name (loadName_is e.kind hv (hQ _ _ _ (.refl e.good) hp)) hd
  · cases hd'

/- operators -/
/-- an operator upon two plain values -/
noncomputable def BinOk (X : Top0) (op : Operator) (f : PV → PV → Option PV) : Prop :=
  ∀ (A : Around) (W : Fz) (s : Shared) (a b : Value) (p q r : PV) (Q : Value → Shared → Prop), Room A 0 → X.W₀.le W → Good W s.heap → Rep W a p → Rep W b q → f p q = some r →
    After W s r Q → wpAny (model X.prog X.w) A (binaryOp op a b) Q NoE s
noncomputable def dBin (f : PV → PV → Option PV) (l r : Den) : Den := fun ρ => match l ρ with
  | some a => match r ρ with
    | some b => f a b
    | none => none
  | none => none
theorem e_bin {l r : Expr} {op : Operator} {pos : Pos} {dl dr : Den} {f : PV → PV → Option PV} (hl : EOk X n lay l dl) (hr : EOk X n lay r dr) (hf : BinOk X op f) : EOk X n lay (.BinOp l op r pos) (dBin f dl dr) := by
  intro A env W ρ s p Q rm e hd hQ
  unfold dBin at hd
  split at hd
  · rename_i a ha
    split at hd
    · rename_i b hb
      refine wpAny_BinOp (hl A env W ρ s a _ rm e ha fun v s₁ W₁ r₁ p₁ => ?_)
      refine hr A env W₁ ρ s₁ b _ rm (e.res r₁) hb fun u s₂ W₂ r₂ p₂ => ?_
      exact hf A W₂ s₂ v u a b p Q (rm.le (Nat.zero_le _)) (e.base.trans (r₁.le.trans r₂.le)) r₂.good (p₁.mono r₂.le) p₂ hd fun w s₃ W₃ r₃ p₃ => hQ w s₃ W₃ ((r₁.trans r₂).trans r₃) p₃
    · cases hd
  · cases hd

/- if-expression -/
noncomputable def dIf (t : List Slot → Option Bool) (a b : Den) : Den := fun ρ => match t ρ with
  | some true => a ρ
  | some false => b ρ
  | none => none
theorem e_ife {t a b : Expr} {pos : Pos} {dt : List Slot → Option Bool} {da db : Den} (ht : TOk X n lay t dt) (ha : EOk X n lay a da) (hb : EOk X n lay b db) : EOk X n lay (.IfExp t a b pos) (dIf dt da db) := by
  intro A env W ρ s p Q rm e hd hQ
  unfold dIf at hd
  split at hd
  · rename_i h
    refine IfExp_ (ht A env W ρ s true _ rm e h fun s₁ W₁ r₁ => ?_)
    exact ha A env W₁ ρ s₁ p Q rm (e.res r₁) hd fun v s₂ W₂ r₂ p₂ => hQ v s₂ W₂ (r₁.trans r₂) p₂
  · rename_i h
    refine IfExp_ (ht A env W ρ s false _ rm e h fun s₁ W₁ r₁ => ?_)
    exact hb A env W₁ ρ s₁ p Q rm (e.res r₁) hd fun v s₂ W₂ r₂ p₂ => hQ v s₂ W₂ (r₁.trans r₂) p₂
  · cases hd
end
end Mine
end

section
open PySem PySem.W PySem.W.X PySem.W.ZRun PyProof.Rows
set_option Elab.async false
set_option autoImplicit false

namespace Mine
section
variable {X : Top0}

noncomputable def fAddI : PV → PV → Option PV
  | .int a, .int b => some (.int (a + b))
  | _, _ => none
theorem b_addI : BinOk X .Add fAddI := by
  intro A W s a b p q r Q rm hb g ra rb hf hQ
  unfold fAddI at hf
  split at hf <;> try (cases hf; done)
  cases hf
  cases ra; cases rb
  exact add_int (hQ _ _ _ (.toks g _) (.int _ _))
noncomputable def fSubI : PV → PV → Option PV
  | .int a, .int b => some (.int (a - b))
  | _, _ => none
theorem b_subI : BinOk X .Sub fSubI := by
  intro A W s a b p q r Q rm hb g ra rb hf hQ
  unfold fSubI at hf
  split at hf <;> try (cases hf; done)
  cases hf
  cases ra; cases rb
  exact sub_int (hQ _ _ _ (.toks g _) (.int _ _))
noncomputable def smallI (a : Int) : Bool := Nat.blt a.natAbs 9223372036854775808
theorem smallI_lt {a : Int} (h : smallI a = true) : a.natAbs < 2 ^ 63 := by
  have := Nat.le_of_ble_eq_true h
  assumption
noncomputable def fMulI : PV → PV → Option PV
  | .int a, .int b => match smallI a with
    | true => some (.int (a * b))
    | false => none
  | _, _ => none
theorem b_mulI : BinOk X .Mult fMulI := by
  intro A W s a b p q r Q rm hb g ra rb hf hQ
  unfold fMulI at hf
  split at hf <;> try (cases hf; done)
  cases ra; cases rb
  split at hf
  · rename_i hs
    cases hf
    refine mul_int (hQ _ _ _ (.toks g _) (.int _ _)) (IntMulOk.of_left (intBits_le_64 ?_ ?_)) <;> have := smallI_lt hs <;> lia
  · cases hf
noncomputable def fModI : PV → PV → Option PV
  | .int a, .int b => match b with
    | .ofNat 0 => none
    | b => some (.int (a.fmod b))
  | _, _ => none
theorem b_modI : BinOk X .Mod fModI := by
  intro A W s a b p q r Q rm hb g ra rb hf hQ
  unfold fModI at hf
  split at hf <;> try (cases hf; done)
  cases ra; cases rb
  split at hf
  · cases hf
  · rename_i hb'
    cases hf
    refine mod_int' ?_ (hQ _ _ _ (.toks g _) (.int _ _))
    intro h; exact hb' h
/-- by a divisor below 2 ** 30 -/
noncomputable def fDivI : PV → PV → Option PV
  | .int a, .int b => match b with
    | .ofNat 0 => none
    | b => match Nat.blt b.natAbs 1073741824 with
      | true => some (.int (a.fdiv b))
      | false => none
  | _, _ => none
theorem b_divI : BinOk X .FloorDiv fDivI := by
  intro A W s a b p q r Q rm hb g ra rb hf hQ
  unfold fDivI at hf
  split at hf <;> try (cases hf; done)
  cases ra; cases rb
  split at hf
  · cases hf
  · rename_i hb'
    split at hf
    · rename_i hs
      cases hf
      exact floordiv_int (fun h => hb' h) (hQ _ _ _ (.toks g _) (.int _ _)) (.inl (PyProof.noPylong_small (Nat.le_of_ble_eq_true hs)))
    · cases hf
/-- small powers -/
noncomputable def fPowI : PV → PV → Option PV
  | .int a, .int (.ofNat n) => match Nat.blt n 64 with
    | true => match Nat.blt a.natAbs 1024 with
      | true => some (.int (a ^ n))
      | false => none
    | false => none
  | _, _ => none
theorem b_powI : BinOk X .Pow fPowI := by
  intro A W s a b p q r Q rm hb g ra rb hf hQ
  unfold fPowI at hf
  split at hf <;> try (cases hf; done)
  split at hf <;> try (cases hf; done)
  rename_i hn
  split at hf <;> try (cases hf; done)
  rename_i hs
  cases hf
  cases ra; cases rb
  have h3 := Nat.le_of_ble_eq_true hs
  have h4 := Nat.le_of_ble_eq_true hn
  refine pow_int_small (by simp) (by simp; lia) (by exact Nat.lt_of_lt_of_le ‹_› (by decide)) (hQ _ _ _ (.toks g _) (.int _ _))
noncomputable def fTdivI : PV → PV → Option PV
  | .int a, .int b => match b with
    | .ofNat 0 => none
    | b => match Float64.isInf (Float64.ofFrac (decide (a < 0) != decide (b < 0)) a.natAbs b.natAbs) with
      | true => none
      | false => some (.flt (Float64.ofFrac (decide (a < 0) != decide (b < 0)) a.natAbs b.natAbs))
  | _, _ => none
theorem b_tdivI : BinOk X .Div fTdivI := by
  intro A W s a b p q r Q rm hb g ra rb hf hQ
  unfold fTdivI at hf
  split at hf <;> try (cases hf; done)
  cases ra; cases rb
  split at hf
  · cases hf
  · rename_i hb'
    split at hf
    · cases hf
    · rename_i hs
      cases hf
      exact AutoIntOps.truediv_2 (by simpa using fun h => hb' h) (by rw [hs]; exact Bool.false_ne_true) (hQ _ _ _ (.toks g _) (.flt _ _))
noncomputable def fAddF : PV → PV → Option PV
  | .flt a, .flt b => some (.flt (Float64.add a b))
  | _, _ => none
theorem b_addF : BinOk X .Add fAddF := by
  intro A W s a b p q r Q rm hb g ra rb hf hQ
  unfold fAddF at hf
  split at hf <;> try (cases hf; done)
  cases hf
  cases ra; cases rb
  exact add_float (hQ _ _ _ (.toks g _) (.flt _ _))
noncomputable def fSubF : PV → PV → Option PV
  | .flt a, .flt b => some (.flt (Float64.sub a b))
  | _, _ => none
theorem b_subF : BinOk X .Sub fSubF := by
  intro A W s a b p q r Q rm hb g ra rb hf hQ
  unfold fSubF at hf
  split at hf <;> try (cases hf; done)
  cases hf
  cases ra; cases rb
  exact sub_float (hQ _ _ _ (.toks g _) (.flt _ _))
noncomputable def fDivF : PV → PV → Option PV
  | .flt a, .flt b => match Float64.isZero b with
    | true => none
    | false => some (.flt (Float64.div a b))
  | _, _ => none
theorem b_divF : BinOk X .Div fDivF := by
  intro A W s a b p q r Q rm hb g ra rb hf hQ
  unfold fDivF at hf
  split at hf <;> try (cases hf; done)
  cases ra; cases rb
  split at hf
  · cases hf
  · rename_i hz
    cases hf
    exact AutoFloatOps.truediv_1 (by rw [hz]; exact Bool.false_ne_true) (hQ _ _ _ (.toks g _) (.flt _ _))
noncomputable def fModF : PV → PV → Option PV
  | .flt a, .flt b => match Float64.isZero b with
    | true => none
    | false => some (.flt (Float64.divmod a b).snd)
  | _, _ => none
theorem b_modF : BinOk X .Mod fModF := by
  intro A W s a b p q r Q rm hb g ra rb hf hQ
  unfold fModF at hf
  split at hf <;> try (cases hf; done)
  cases ra; cases rb
  split at hf
  · cases hf
  · rename_i hz
    cases hf
    exact AutoFloatOps.mod_1 (by rw [hz]; exact Bool.false_ne_true) (hQ _ _ _ (.toks g _) (.flt _ _))
noncomputable def fMulFI : PV → PV → Option PV
  | .flt a, .int b => match smallI b with
    | true => some (.flt (Float64.mul a (Float64.ofInt b)))
    | false => none
  | _, _ => none
theorem b_mulFI : BinOk X .Mult fMulFI := by
  intro A W s a b p q r Q rm hb g ra rb hf hQ
  unfold fMulFI at hf
  split at hf <;> try (cases hf; done)
  cases ra; cases rb
  split at hf
  · rename_i hs
    cases hf
    exact mul_fi_fits (Nat.lt_trans (smallI_lt hs) (by decide +kernel)) (hQ _ _ _ (.toks g _) (.flt _ _))
  · cases hf
noncomputable def fAddS : PV → PV → Option PV
  | .str x, .str y => match Nat.ble (x.length + y.length) 16777216 with
    | true => some (.str (x ++ y))
    | false => none
  | _, _ => none
theorem b_addS : BinOk X .Add fAddS := by
  intro A W s a b p q r Q rm hb g ra rb hf hQ
  unfold fAddS at hf
  split at hf <;> try (cases hf; done)
  cases ra; cases rb
  split at hf
  · rename_i hs
    cases hf
    exact add_str (fun t' tk => hQ _ _ _ (.toks g _) (.str _ _)) (Nat.le_of_ble_eq_true hs)
  · cases hf
/-- the sign's text n times, n small -/
noncomputable def fMulSI : PV → PV → Option PV
  | .str x, .int (.ofNat n) => match Nat.ble n 1000 with
    | true => match Nat.ble x.length 1000 with
      | true => some (.str (Txt.mul x (Int.ofNat n)))
      | false => none
    | false => none
  | _, _ => none
theorem b_mulSI : BinOk X .Mult fMulSI := by
  intro A W s a b p q r Q rm hb g ra rb hf hQ
  unfold fMulSI at hf
  split at hf <;> try (cases hf; done)
  split at hf <;> try (cases hf; done)
  rename_i hn
  split at hf <;> try (cases hf; done)
  rename_i hs
  cases hf
  cases ra; cases rb
  have h3 := Nat.le_of_ble_eq_true hs
  have h4 := Nat.le_of_ble_eq_true hn
  refine SB.mul (mulOk_of 1000 1000 h3 (by simp; lia) ?_ (by exact Nat.le_add_left _ _) (by exact Nat.le_add_left _ _)) fun t' k => hQ _ _ _ (.toks g _) (.str _ _)
  refine Int.le_trans ?_ (Int.natCast_nonneg _)
  decide
end
end Mine
end

section
open PySem PySem.W PySem.W.X PySem.W.ZRun PyProof.Rows
set_option Elab.async false
set_option autoImplicit false

namespace Mine

/- plain data as the library's -/
mutual
noncomputable def toPy : PV → PyData
  | .none => .none
  | .bool b => .bool b
  | .int i => .int i
  | .flt _ => .none
  | .str x => .str x
  | .dict _ => .none
  | .list l => .list (toPys l)
  | .tup l => .tuple (toPys l)
noncomputable def toPys : List PV → List PyData
  | [] => []
  | p :: l => toPy p :: toPys l
end
mutual
noncomputable def noFlt : PV → Bool
  | .none => true
  | .bool _ => true
  | .int _ => true
  | .flt _ => false
  | .str _ => true
  | .dict _ => false
  | .list l => noFlts l
  | .tup l => noFlts l
noncomputable def noFlts : List PV → Bool
  | [] => true
  | p :: l => noFlt p && noFlts l
end
theorem Rep.reads {W : Fz} {h : Heap} (g : Good W h) {v : Value} {p : PV} (r : Rep W v p) : noFlt p = true → ∃ as, Reads h v (toPy p) as := by
  refine Rep.rec (motive_1 := fun v p _ => noFlt p = true → ∃ as, Reads h v (toPy p) as) (motive_2 := fun vs ps _ => noFlts ps = true → ∃ as, ReadsAll h vs (toPys ps) as) ?_ ?_ ?_ ?_ ?_ ?_ ?_ ?_ ?_ ?_ r
  · intro _; exact ⟨_, by simp only [toPy]; exact .none⟩
  · intro b _; exact ⟨_, by simp only [toPy]; exact .bool b⟩
  · intro i t _; exact ⟨_, by simp only [toPy]; exact .int i t⟩
  · intro b t h; simp [noFlt] at h
  · intro x t _; exact ⟨_, by simp only [toPy]; exact .str x t⟩
  · intro a o D _ _ _ h; simp [noFlt] at h
  · intro a vs n ps e _ ih hn
    obtain ⟨as, ha⟩ := ih (by simpa only [noFlt] using hn)
    exact ⟨_, by simp only [toPy]; exact .list (g _ _ e) rfl rfl (by simpa using ha)⟩
  · intro a vs n ps e _ ih hn
    obtain ⟨as, ha⟩ := ih (by simpa only [noFlt] using hn)
    exact ⟨_, by simp only [toPy]; exact .tuple (g _ _ e) rfl rfl (by simpa using ha)⟩
  · intro _; exact ⟨_, by simp only [toPys]; exact .nil⟩
  · intro v p vs ps _ _ ih1 ih2 hn
    simp only [noFlts, Bool.and_eq_true] at hn
    obtain ⟨as, ha⟩ := ih1 hn.1
    obtain ⟨bs, hb⟩ := ih2 hn.2
    exact ⟨_, by simp only [toPys]; exact .cons ha hb⟩

section
variable {X : Top0} {n : Nat} {lay : Lay}

noncomputable def CmpOk (X : Top0) (op : CmpOp) (f : PV → PV → Option Bool) : Prop :=
  ∀ (A : Around) (W : Fz) (s : Shared) (a b : Value) (p q : PV) (r : Bool) (Q : Value → Shared → Prop), Room A 0 → X.W₀.le W → Good W s.heap → Rep W a p → Rep W b q → f p q = some r →
    (∀ s' W', Res W s W' s' → Q (.bool r) s') → wpAny (model X.prog X.w) A (compareOp op a b) Q NoE s

noncomputable def cEqI : PV → PV → Option Bool
  | .int a, .int b => some (a == b)
  | _, _ => none
theorem c_eqI : CmpOk X .Eq cEqI := by
  intro A W s a b p q r Q rm hb g ra rb hf hQ
  unfold cEqI at hf
  split at hf <;> cases hf
  cases ra; cases rb
  exact eq_int (hQ _ _ (.refl g))
noncomputable def cLtI : PV → PV → Option Bool
  | .int a, .int b => some (decide (a < b))
  | _, _ => none
theorem c_ltI : CmpOk X .Lt cLtI := by
  intro A W s a b p q r Q rm hb g ra rb hf hQ
  unfold cLtI at hf
  split at hf <;> cases hf
  cases ra; cases rb
  exact lt_int (hQ _ _ (.refl g))
noncomputable def cLeI : PV → PV → Option Bool
  | .int a, .int b => some (decide (a ≤ b))
  | _, _ => none
theorem c_leI : CmpOk X .LtE cLeI := by
  intro A W s a b p q r Q rm hb g ra rb hf hQ
  unfold cLeI at hf
  split at hf <;> cases hf
  cases ra; cases rb
  exact le_int (hQ _ _ (.refl g))
noncomputable def cGtI : PV → PV → Option Bool
  | .int a, .int b => some (decide (b < a))
  | _, _ => none
theorem c_gtI : CmpOk X .Gt cGtI := by
  intro A W s a b p q r Q rm hb g ra rb hf hQ
  unfold cGtI at hf
  split at hf <;> cases hf
  cases ra; cases rb
  exact gt_int (hQ _ _ (.refl g))
noncomputable def cNeI : PV → PV → Option Bool
  | .int a, .int b => some (a != b)
  | _, _ => none
theorem c_neI : CmpOk X .NotEq cNeI := by
  intro A W s a b p q r Q rm hb g ra rb hf hQ
  unfold cNeI at hf
  split at hf <;> cases hf
  cases ra; cases rb
  exact ne_int (hQ _ _ (.refl g))
noncomputable def cEqS : PV → PV → Option Bool
  | .str a, .str b => some (a == b)
  | _, _ => none
theorem c_eqS : CmpOk X .Eq cEqS := by
  intro A W s a b p q r Q rm hb g ra rb hf hQ
  unfold cEqS at hf
  split at hf <;> cases hf
  cases ra; cases rb
  exact PyProof.Rows.eq_str (hQ _ _ (.refl g))
noncomputable def cNeS : PV → PV → Option Bool
  | .str a, .str b => some (a != b)
  | _, _ => none
theorem c_neS : CmpOk X .NotEq cNeS := by
  intro A W s a b p q r Q rm hb g ra rb hf hQ
  unfold cNeS at hf
  split at hf <;> cases hf
  cases ra; cases rb
  exact PyProof.Rows.ne_str (hQ _ _ (.refl g))
noncomputable def cEqF : PV → PV → Option Bool
  | .flt a, .flt b => some (Float64.cmp a b == some Ordering.eq)
  | _, _ => none
theorem c_eqF : CmpOk X .Eq cEqF := by
  intro A W s a b p q r Q rm hb g ra rb hf hQ
  unfold cEqF at hf
  split at hf <;> cases hf
  cases ra; cases rb
  exact AutoFloatOps.eq_0 (hQ _ _ (.refl g))
noncomputable def cLeF : PV → PV → Option Bool
  | .flt a, .flt b => some (Float64.cmp a b == some Ordering.lt || Float64.cmp a b == some Ordering.eq)
  | _, _ => none
theorem c_leF : CmpOk X .LtE cLeF := by
  intro A W s a b p q r Q rm hb g ra rb hf hQ
  unfold cLeF at hf
  split at hf <;> cases hf
  cases ra; cases rb
  exact AutoFloatOps.le_0 (hQ _ _ (.refl g))
noncomputable def cIsNotB : PV → PV → Option Bool
  | .bool a, .bool b => some (a != b)
  | _, _ => none
theorem c_isNotB : CmpOk X .IsNot cIsNotB := by
  intro A W s a b p q r Q rm hb g ra rb hf hQ
  unfold cIsNotB at hf
  split at hf <;> cases hf
  cases ra; cases rb
  exact isnot_bool (hQ _ _ (.refl g))
noncomputable def cIsNone : PV → PV → Option Bool
  | .none, .none => some true
  | .int _, .none => some false
  | _, _ => none
theorem c_isNone : CmpOk X .Is cIsNone := by
  intro A W s a b p q r Q rm hb g ra rb hf hQ
  unfold cIsNone at hf
  split at hf <;> cases hf
  · cases ra; cases rb
    exact is_none_none (hQ _ _ (.refl g))
  · cases ra; cases rb
    exact is_int_none (hQ _ _ (.refl g))
noncomputable def cNotInS : PV → PV → Option Bool
  | .str y, .str x => some (!Txt.contains x y)
  | _, _ => none
theorem c_notInS : CmpOk X .NotIn cNotInS := by
  intro A W s a b p q r Q rm hb g ra rb hf hQ
  unfold cNotInS at hf
  split at hf <;> cases hf
  cases ra; cases rb
  exact SB.notContains (hQ _ _ (.refl g))
/-- lists compared -/
noncomputable def okD (p : PV) : Bool := noFlt p && SeqAt.shaped (toPy p)
noncomputable def cEqL (p q : PV) : Option Bool := match okD p with
  | true => match okD q with
    | true => some (PyData.eqv (toPy p) (toPy q))
    | false => none
  | false => none
theorem c_eqL : CmpOk X .Eq cEqL := by
  intro A W s a b p q r Q rm hb g ra rb hf hQ
  unfold cEqL at hf
  split at hf <;> try (cases hf; done)
  rename_i h1
  split at hf <;> try (cases hf; done)
  rename_i h2
  cases hf
  simp only [okD, Bool.and_eq_true] at h1 h2
  obtain ⟨as, ha⟩ := ra.reads g h1.1
  obtain ⟨bs, hb'⟩ := rb.reads g h2.1
  exact eq_dataH ha hb' h1.2 h2.2 (by have := rm.units; simp only [cLine]; lia) (hQ _ _ (.refl g))
noncomputable def cNeL (p q : PV) : Option Bool := match cEqL p q with
  | some b => some (!b)
  | none => none
theorem c_neL : CmpOk X .NotEq cNeL := by
  intro A W s a b p q r Q rm hb g ra rb hf hQ
  unfold cNeL cEqL at hf
  split at hf <;> try (cases hf; done)
  rename_i h0
  split at h0 <;> try (cases h0; done)
  rename_i h1
  split at h0 <;> try (cases h0; done)
  rename_i h2
  cases h0
  cases hf
  simp only [okD, Bool.and_eq_true] at h1 h2
  obtain ⟨as, ha⟩ := ra.reads g h1.1
  obtain ⟨bs, hb'⟩ := rb.reads g h2.1
  exact ne_dataH ha hb' h1.2 h2.2 (by have := rm.units; simp only [cLine]; omega) (hQ _ _ (.refl g))
/-- x in a list -/
noncomputable def cInL (p q : PV) : Option Bool := match q with
  | .list l => match okD p with
    | true => match okD (.list l) with
      | true => some ((toPys l).any fun y => PyData.eqv y (toPy p))
      | false => none
    | false => none
  | _ => none
theorem c_inL : CmpOk X .In cInL := by
  intro A W s a b p q r Q rm hb g ra rb hf hQ
  unfold cInL at hf
  split at hf <;> try (cases hf; done)
  split at hf <;> try (cases hf; done)
  rename_i h1
  split at hf <;> try (cases hf; done)
  rename_i h2
  cases hf
  simp only [okD, Bool.and_eq_true] at h1 h2
  obtain ⟨as, ha⟩ := ra.reads g h1.1
  obtain ⟨bs, hb'⟩ := rb.reads g h2.1
  simp only [toPy] at hb' h2
  exact PySem.SeqAt.in_list_reads hb' ha (SeqAt.canLay_of_shaped h2.2) (SeqAt.canLay_of_shaped h1.2) (room_in_shaped h1.2 (by have := rm.units; simp only [cLine]; lia)) (hQ _ _ (.refl g))

/- one comparison: its value, its test -/
noncomputable abbrev DenB := List Slot → Option Bool
noncomputable def dCmp (f : PV → PV → Option Bool) (l r : Den) : DenB := fun ρ => match l ρ with
  | some a => match r ρ with
    | some b => f a b
    | none => none
  | none => none
noncomputable def dB (d : DenB) : Den := fun ρ => match d ρ with
  | some b => some (.bool b)
  | none => none
theorem dB_some {d : DenB} {ρ : List Slot} {p : PV} (h : dB d ρ = some p) : ∃ b, d ρ = some b ∧ p = .bool b := by
  unfold dB at h
  split at h
  · rename_i b hb; cases h; exact ⟨b, hb, rfl⟩
  · cases h
theorem e_cmp {l r : Expr} {op : CmpOp} {pos : Pos} {dl dr : Den} {f : PV → PV → Option Bool} (hl : EOk X n lay l dl) (hr : EOk X n lay r dr) (hf : CmpOk X op f) (hm : behindInMarks op r = false := by with_unfolding_all rfl) :
    EOk X n lay (.Compare l [op] [r] pos) (dB (dCmp f dl dr)) := by
  intro A env W ρ s p Q rm e hd hQ
  obtain ⟨c, hd1, rfl⟩ := dB_some hd; clear hd; have hd := hd1; clear hd1
  unfold dCmp at hd
  split at hd <;> try (cases hd; done)
  rename_i a ha
  split at hd <;> try (cases hd; done)
  rename_i b hb
  refine wpAny_Compare1 (hl A env W ρ s a _ rm e ha fun v s₁ W₁ r₁ p₁ => ?_) hm
  refine hr A env W₁ ρ s₁ b _ rm (e.res r₁) hb fun u s₂ W₂ r₂ p₂ => ?_
  exact hf A W₂ s₂ v u a b c Q (rm.le (Nat.zero_le _)) (e.base.trans (r₁.le.trans r₂.le)) r₂.good (p₁.mono r₂.le) p₂ hd fun s₃ W₃ r₃ => hQ _ s₃ W₃ ((r₁.trans r₂).trans r₃) (.bool _)
theorem t_cmp {l r : Expr} {op : CmpOp} {pos : Pos} {dl dr : Den} {f : PV → PV → Option Bool} (hl : EOk X n lay l dl) (hr : EOk X n lay r dr) (hf : CmpOk X op f) (hm : behindInMarks op r = false := by with_unfolding_all rfl) :
    TOk X n lay (.Compare l [op] [r] pos) (dCmp f dl dr) := by
  intro A env W ρ s c Q rm e hd hQ
  unfold dCmp at hd
  split at hd <;> try (cases hd; done)
  rename_i a ha
  split at hd <;> try (cases hd; done)
  rename_i b hb
  refine wpAny_isTrue_Compare1 (hl A env W ρ s a _ rm e ha fun v s₁ W₁ r₁ p₁ => ?_) hm
  refine hr A env W₁ ρ s₁ b _ rm (e.res r₁) hb fun u s₂ W₂ r₂ p₂ => ?_
  exact hf A W₂ s₂ v u a b c _ (rm.le (Nat.zero_le _)) (e.base.trans (r₁.le.trans r₂.le)) r₂.good (p₁.mono r₂.le) p₂ hd fun s₃ W₃ r₃ => wpAny_truthy_bool (hQ s₃ W₃ ((r₁.trans r₂).trans r₃))

/- a < b < c -/
noncomputable def dCmp2 (f g : PV → PV → Option Bool) (l m r : Den) : DenB := fun ρ => match l ρ with
  | some a => match m ρ with
    | some b => match f a b with
      | some true => match r ρ with
        | some c => g b c
        | none => none
      | some false => some false
      | none => none
    | none => none
  | none => none
theorem e_cmp2 {l m r : Expr} {op op' : CmpOp} {pos : Pos} {dl dm dr : Den} {f g : PV → PV → Option Bool} (hl : EOk X n lay l dl) (hm : EOk X n lay m dm) (hr : EOk X n lay r dr) (hf : CmpOk X op f) (hg : CmpOk X op' g)
    (hk : lastMarks [op, op'] [m, r] = false := by with_unfolding_all rfl) :
    EOk X n lay (.Compare l [op, op'] [m, r] pos) (dB (dCmp2 f g dl dm dr)) := by
  intro A env W ρ s p Q rm e hd hQ
  obtain ⟨c, hd1, rfl⟩ := dB_some hd; clear hd; have hd := hd1; clear hd1
  unfold dCmp2 at hd
  split at hd <;> try (cases hd; done)
  rename_i a ha
  split at hd <;> try (cases hd; done)
  rename_i b hb
  refine Compare_chain (hl A env W ρ s a _ rm e ha fun v s₁ W₁ r₁ p₁ => ?_) hk
  refine chain_link (hm A env W₁ ρ s₁ b _ rm (e.res r₁) hb fun u s₂ W₂ r₂ p₂ => ?_)
  have e₂ := (e.res r₁).res r₂
  split at hd
  · rename_i hfab
    split at hd <;> try (cases hd; done)
    rename_i c' hc
    refine hf A W₂ s₂ v u a b true _ (rm.le (Nat.zero_le _)) e₂.base r₂.good (p₁.mono r₂.le) p₂ hfab fun s₃ W₃ r₃ => wpAny_truthy_bool ?_
    rw [if_pos rfl]
    refine chain_last (hr A env W₃ ρ s₃ c' _ rm (e₂.res r₃) hc fun u' s₄ W₄ r₄ p₄ => ?_)
    exact hg A W₄ s₄ u u' b c' c Q (rm.le (Nat.zero_le _)) ((e₂.res r₃).res r₄).base r₄.good (p₂.mono (r₃.le.trans r₄.le)) p₄ hd fun s₅ W₅ r₅ => hQ _ s₅ W₅ ((((r₁.trans r₂).trans r₃).trans r₄).trans r₅) (.bool _)
  · rename_i hfab
    cases hd
    refine hf A W₂ s₂ v u a b false _ (rm.le (Nat.zero_le _)) e₂.base r₂.good (p₁.mono r₂.le) p₂ hfab fun s₃ W₃ r₃ => wpAny_truthy_bool ?_
    rw [if_neg Bool.false_ne_true]
    exact hQ _ s₃ W₃ ((r₁.trans r₂).trans r₃) (.bool _)
  · cases hd
theorem t_cmp2 {l m r : Expr} {op op' : CmpOp} {pos : Pos} {dl dm dr : Den} {f g : PV → PV → Option Bool} (hl : EOk X n lay l dl) (hm : EOk X n lay m dm) (hr : EOk X n lay r dr) (hf : CmpOk X op f) (hg : CmpOk X op' g)
    (hk : lastMarks [op, op'] [m, r] = false := by with_unfolding_all rfl) :
    TOk X n lay (.Compare l [op, op'] [m, r] pos) (dCmp2 f g dl dm dr) := by
  intro A env W ρ s c Q rm e hd hQ
  unfold dCmp2 at hd
  split at hd <;> try (cases hd; done)
  rename_i a ha
  split at hd <;> try (cases hd; done)
  rename_i b hb
  refine isTrue_chain (hl A env W ρ s a _ rm e ha fun v s₁ W₁ r₁ p₁ => ?_) hk
  refine test_link (hm A env W₁ ρ s₁ b _ rm (e.res r₁) hb fun u s₂ W₂ r₂ p₂ => ?_)
  have e₂ := (e.res r₁).res r₂
  split at hd
  · rename_i hfab
    split at hd <;> try (cases hd; done)
    rename_i c' hc
    refine hf A W₂ s₂ v u a b true _ (rm.le (Nat.zero_le _)) e₂.base r₂.good (p₁.mono r₂.le) p₂ hfab fun s₃ W₃ r₃ => wpAny_truthy_bool ?_
    rw [if_pos rfl]
    refine test_last (hr A env W₃ ρ s₃ c' _ rm (e₂.res r₃) hc fun u' s₄ W₄ r₄ p₄ => ?_)
    exact hg A W₄ s₄ u u' b c' c _ (rm.le (Nat.zero_le _)) ((e₂.res r₃).res r₄).base r₄.good (p₂.mono (r₃.le.trans r₄.le)) p₄ hd fun s₅ W₅ r₅ => wpAny_truthy_bool (hQ s₅ W₅ ((((r₁.trans r₂).trans r₃).trans r₄).trans r₅))
  · rename_i hfab
    cases hd
    refine hf A W₂ s₂ v u a b false _ (rm.le (Nat.zero_le _)) e₂.base r₂.good (p₁.mono r₂.le) p₂ hfab fun s₃ W₃ r₃ => wpAny_truthy_bool ?_
    rw [if_neg Bool.false_ne_true]
    exact hQ s₃ W₃ ((r₁.trans r₂).trans r₃)
  · cases hd

/- and, or of two; as tests and as values of bools -/
noncomputable def dAnd (a b : DenB) : DenB := fun ρ => match a ρ with
  | some true => b ρ
  | some false => some false
  | none => none
noncomputable def dOr (a b : DenB) : DenB := fun ρ => match a ρ with
  | some true => some true
  | some false => b ρ
  | none => none
theorem t_and {l r : Expr} {pos : Pos} {dl dr : DenB} (hl : TOk X n lay l dl) (hr : TOk X n lay r dr) : TOk X n lay (.BoolOp .And [l, r] pos) (dAnd dl dr) := by
  intro A env W ρ s c Q rm e hd hQ
  unfold dAnd at hd
  split at hd
  · rename_i h
    refine isTrue_and (hl A env W ρ s true _ rm e h fun s₁ W₁ r₁ => ?_)
    rw [if_pos rfl]
    refine isTrue_and (hr A env W₁ ρ s₁ c _ rm (e.res r₁) hd fun s₂ W₂ r₂ => ?_)
    have := hQ s₂ W₂ (r₁.trans r₂)
    cases c
    · rw [if_neg Bool.false_ne_true]; exact this
    · rw [if_pos rfl]; exact isTrue_and_nil this
  · rename_i h
    cases hd
    refine isTrue_and (hl A env W ρ s false _ rm e h fun s₁ W₁ r₁ => ?_)
    rw [if_neg Bool.false_ne_true]; exact hQ s₁ W₁ r₁
  · cases hd
theorem t_or {l r : Expr} {pos : Pos} {dl dr : DenB} (hl : TOk X n lay l dl) (hr : TOk X n lay r dr) : TOk X n lay (.BoolOp .Or [l, r] pos) (dOr dl dr) := by
  intro A env W ρ s c Q rm e hd hQ
  unfold dOr at hd
  split at hd
  · rename_i h
    cases hd
    refine isTrue_or (hl A env W ρ s true _ rm e h fun s₁ W₁ r₁ => ?_)
    rw [if_pos rfl]; exact hQ s₁ W₁ r₁
  · rename_i h
    refine isTrue_or (hl A env W ρ s false _ rm e h fun s₁ W₁ r₁ => ?_)
    rw [if_neg Bool.false_ne_true]
    refine isTrue_or (hr A env W₁ ρ s₁ c _ rm (e.res r₁) hd fun s₂ W₂ r₂ => ?_)
    have := hQ s₂ W₂ (r₁.trans r₂)
    cases c
    · rw [if_neg Bool.false_ne_true]; exact isTrue_or_nil this
    · rw [if_pos rfl]; exact this
  · cases hd
theorem Rep.isBool {W : Fz} {v : Value} {b : Bool} (r : Rep W v (.bool b)) : v = .bool b := by cases r; rfl
theorem e_and {l r : Expr} {pos : Pos} {dl dr : DenB} (hl : EOk X n lay l (dB dl)) (hr : EOk X n lay r (dB dr)) : EOk X n lay (.BoolOp .And [l, r] pos) (dB (dAnd dl dr)) := by
  intro A env W ρ s p Q rm e hd hQ
  obtain ⟨c, hd1, rfl⟩ := dB_some hd; clear hd; have hd := hd1; clear hd1
  unfold dAnd at hd
  split at hd
  · rename_i h
    refine BoolOp_and (hl A env W ρ s (.bool true) _ rm e (by simp [dB, h]) fun v s₁ W₁ r₁ p₁ => ?_)
    rw [p₁.isBool]
    refine wpAny_truthy_bool ?_
    rw [if_pos rfl]
    exact BoolOp_one (hr A env W₁ ρ s₁ (.bool c) _ rm (e.res r₁) (by simp [dB, hd]) fun v s₂ W₂ r₂ p₂ => hQ v s₂ W₂ (r₁.trans r₂) p₂)
  · rename_i h
    cases hd
    refine BoolOp_and (hl A env W ρ s (.bool false) _ rm e (by simp [dB, h]) fun v s₁ W₁ r₁ p₁ => ?_)
    rw [p₁.isBool]
    refine wpAny_truthy_bool ?_
    rw [if_neg Bool.false_ne_true]
    exact hQ _ s₁ W₁ r₁ (.bool _)
  · cases hd
theorem e_or {l r : Expr} {pos : Pos} {dl dr : DenB} (hl : EOk X n lay l (dB dl)) (hr : EOk X n lay r (dB dr)) : EOk X n lay (.BoolOp .Or [l, r] pos) (dB (dOr dl dr)) := by
  intro A env W ρ s p Q rm e hd hQ
  obtain ⟨c, hd1, rfl⟩ := dB_some hd; clear hd; have hd := hd1; clear hd1
  unfold dOr at hd
  split at hd
  · rename_i h
    cases hd
    refine BoolOp_or (hl A env W ρ s (.bool true) _ rm e (by simp [dB, h]) fun v s₁ W₁ r₁ p₁ => ?_)
    rw [p₁.isBool]
    refine wpAny_truthy_bool ?_
    rw [if_pos rfl]
    exact hQ _ s₁ W₁ r₁ (.bool _)
  · rename_i h
    refine BoolOp_or (hl A env W ρ s (.bool false) _ rm e (by simp [dB, h]) fun v s₁ W₁ r₁ p₁ => ?_)
    rw [p₁.isBool]
    refine wpAny_truthy_bool ?_
    rw [if_neg Bool.false_ne_true]
    exact BoolOp_one (hr A env W₁ ρ s₁ (.bool c) _ rm (e.res r₁) (by simp [dB, hd]) fun v s₂ W₂ r₂ p₂ => hQ v s₂ W₂ (r₁.trans r₂) p₂)
  · cases hd
/-- a name that holds a bool -/
noncomputable def dTrue (d : Den) : DenB := fun ρ => match d ρ with
  | some (.bool b) => some b
  | _ => none
theorem t_name {x : Str} {pos : Pos} {d : Den} (h : EOk X n lay (.Name x pos) d) : TOk X n lay (.Name x pos) (dTrue d) := by
  intro A env W ρ s c Q rm e hd hQ
  unfold dTrue at hd
  split at hd <;> try (cases hd; done)
  rename_i b hb
  cases hd
  refine isTrue_plain (h A env W ρ s (.bool c) _ rm e hb fun v s₁ W₁ r₁ p₁ => ?_)
  rw [p₁.isBool]
  exact wpAny_truthy_bool (hQ s₁ W₁ r₁)
end
end Mine
end

section
open PySem PySem.W PySem.W.X PySem.W.ZRun PyProof.Rows
set_option Elab.async false
set_option autoImplicit false

namespace Mine
section
variable {X : Top0} {n : Nat} {lay : Lay}

/- several expressions -/
noncomputable abbrev Dens := List Slot → Option (List PV)
structure EsOk (X : Top0) (n : Nat) (lay : Lay) (es : List Expr) (d : Dens) : Prop where
  plain : ∀ (env : Env) (pos : Pos), (backTo pos (starEach es env)).any (·.1) = false
  run : ∀ (A : Around) (env : Env) (W : Fz) (ρ : List Slot) (s : Shared) (ps : List PV) (pos : Pos) (Q : List Value → Shared → Prop),
    Room A n → EnvOk X env lay ρ W s → d ρ = some ps → (∀ vs s' W', Res W s W' s' → Reps W' vs ps → Q vs s') → wpAny (model X.prog X.w) A (spliced (backTo pos (starEach es env))) Q NoE s
noncomputable def dNil : Dens := fun _ => some []
noncomputable def dCons (d : Den) (ds : Dens) : Dens := fun ρ => match d ρ with
  | some p => match ds ρ with
    | some ps => some (p :: ps)
    | none => none
  | none => none
theorem es_nil : EsOk X n lay [] dNil := ⟨fun _ _ => rfl, by
  intro A env W ρ s ps pos Q rm e hd hQ
  cases hd
  exact spliced_none (hQ _ _ _ (.refl e.good) .nil)⟩
theorem es_cons {e : Expr} {es : List Expr} {d : Den} {ds : Dens} (he : EOk X n lay e d) (hes : EsOk X n lay es ds)
    (hs : ∀ env, starEach (e :: es) env = (false, eval e env) :: starEach es env := by intro _; rfl) : EsOk X n lay (e :: es) (dCons d ds) := ⟨fun env pos => by
  rw [hs]; exact hes.plain env pos, by
  intro A env W ρ s ps pos Q rm e' hd hQ
  unfold dCons at hd
  split at hd <;> try (cases hd; done)
  rename_i p hp
  split at hd <;> try (cases hd; done)
  rename_i qs hqs
  cases hd
  refine spliced_more (he A env W ρ s p _ rm e' hp fun v s₁ W₁ r₁ p₁ => ?_) (hs env)
  exact hes.run A env W₁ ρ s₁ qs pos _ rm (e'.res r₁) hqs fun vs s₂ W₂ r₂ p₂ => hQ _ s₂ W₂ (r₁.trans r₂) (.cons (p₁.mono r₂.le) p₂)⟩

/- displays -/
theorem Reps.len {W : Fz} {vs : List Value} {ps : List PV} (r : Reps W vs ps) : vs.length = ps.length := r.length
noncomputable def dList (ds : Dens) : Den := fun ρ => match ds ρ with
  | some ps => match Nat.ble ps.length 16777216 with
    | true => some (.list ps)
    | false => none
  | none => none
noncomputable def dTup (ds : Dens) : Den := fun ρ => match ds ρ with
  | some ps => match Nat.ble ps.length 16777216 with
    | true => some (.tup ps)
    | false => none
  | none => none
theorem new_list {A : Around} {W : Fz} {s : Shared} {vs : List Value} {ps : List PV} {Q : Value → Shared → Prop} (g : Good W s.heap) (r : Reps W vs ps) (hl : ps.length ≤ 16777216)
    (hQ : After W s (.list ps) Q) : wpAny (model X.prog X.w) A (newList vs) Q NoE s := by
  have hsz : vs.toArray.size ≤ sizeLine := by rw [List.size_toArray, r.length]; exact hl
  refine wpAny_newObj_type (hQ _ _ _ (Res.new g _ rfl s.toks) (.list Fz.add_self (r.mono (Fz.le_add g.size)))) hsz
theorem new_tup {A : Around} {W : Fz} {s : Shared} {vs : List Value} {ps : List PV} {Q : Value → Shared → Prop} (g : Good W s.heap) (r : Reps W vs ps) (hl : ps.length ≤ 16777216)
    (hQ : After W s (.tup ps) Q) : wpAny (model X.prog X.w) A (newTuple vs) Q NoE s := by
  have hsz : vs.toArray.size ≤ sizeLine := by rw [List.size_toArray, r.length]; exact hl
  refine wpAny_newObj_type (hQ _ _ _ (Res.new g _ rfl s.toks) (.tup Fz.add_self (r.mono (Fz.le_add g.size)))) hsz
theorem e_list {es : List Expr} {pos : Pos} {ds : Dens} (h : EsOk X n lay es ds) : EOk X n lay (.List es pos) (dList ds) := by
  intro A env W ρ s p Q rm e hd hQ
  unfold dList at hd
  split at hd <;> try (cases hd; done)
  rename_i ps hps
  split at hd <;> try (cases hd; done)
  rename_i hl
  cases hd
  refine List_ (h.run A env W ρ s ps pos _ rm e hps fun vs s₁ W₁ r₁ p₁ => ?_)
  exact new_list r₁.good p₁ (Nat.le_of_ble_eq_true hl) fun v s₂ W₂ r₂ p₂ => hQ v s₂ W₂ (r₁.trans r₂) p₂
theorem e_tup {es : List Expr} {k : Nat} {pos : Pos} {ds : Dens} (h : EsOk X n lay es ds) : EOk X n lay (.Tuple es k pos) (dTup ds) := by
  intro A env W ρ s p Q rm e hd hQ
  unfold dTup at hd
  split at hd <;> try (cases hd; done)
  rename_i ps hps
  split at hd <;> try (cases hd; done)
  rename_i hl
  cases hd
  refine Tuple_ (h.run A env W ρ s ps pos _ rm e hps fun vs s₁ W₁ r₁ p₁ => ?_)
  exact new_tup r₁.good p₁ (Nat.le_of_ble_eq_true hl) fun v s₂ W₂ r₂ p₂ => hQ v s₂ W₂ (r₁.trans r₂) p₂

/- an item -/
theorem sub_tail {A : Around} {s : Shared} {value slice : Expr} {o i : Value} {T id : String} {Q : Value → Shared → Prop} (hT : s.TypeIs o T)
    (hl : typeLookup (.type T) "__getitem__" = pure (some (.builtin id))) (h : wpAny (model X.prog X.w) A (getItem o i) Q NoE s)
    (hs : ∃ l, subscripted slice false o i = operate l (getItem o i)) :
    wpAny (model X.prog X.w) A (subscriptTail value slice o i) Q NoE s := by
  obtain ⟨l, hs⟩ := hs
  unfold subscriptTail
  refine wpAny_bind ?_
  rw [getitemInPython_of_ne hT.not_modules]
  refine wpAny_bind (wpAny_specialOf hT hl ?_)
  have fin : wpAny (model X.prog X.w) A (subscripted slice false o i) (fun r s₃ => wpAny (model X.prog X.w) A (letTemporaryGo value o r >>= fun _ => pure r) Q NoE s₃) NoE s := by
    rw [hs]
    exact wpAny_operating (wpAny_mono h (fun r s₃ h₃ => wpAny_bind (wpAny_letTemporaryGo (wpAny_pure h₃))) fun _ _ x => x)
  first
    | exact wpAny_pure (wpAny_bind fin)
    | exact wpAny_bind (wpAny_pure (wpAny_bind fin))
    | exact wpAny_bind fin
theorem seqIndex_nat {i k : Nat} (h : i < k) : seqIndex? (Int.ofNat i) k = some i := by
  have h1 : ¬ (Int.ofNat i < 0) := by show ¬ ((i : Int) < 0); lia
  have h2 : (Int.ofNat i : Int) < (k : Int) := by show (i : Int) < (k : Int); lia
  have h3 : (0 : Int) ≤ Int.ofNat i := by show (0 : Int) ≤ (i : Int); lia
  simp only [seqIndex?, if_neg h1, h2, h3, decide_true, and_self, if_true, Bool.and_true, Bool.and_self]
  rfl
noncomputable def fItem : PV → PV → Option PV
  | .list l, .int (.ofNat i) => match Nat.blt i 16777217 with
    | true => l[i]?
    | false => none
  | .tup l, .int (.ofNat i) => match Nat.blt i 16777217 with
    | true => l[i]?
    | false => none
  | .str x, .int (.ofNat i) => match Nat.blt i 16777217 with
    | true => match x.cps[i]? with
      | some c => some (.str ⟨#[c]⟩)
      | none => none
    | false => none
  | _, _ => none
theorem item_ok {A : Around} {W : Fz} {s : Shared} {a b : Value} {p q r : PV} {Q : Value → Shared → Prop} {value slice : Expr} (g : Good W s.heap) (ra : Rep W a p) (rb : Rep W b q) (hf : fItem p q = some r)
    (hs : ∀ o i, ∃ l, subscripted slice false o i = operate l (getItem o i)) (hQ : After W s r Q) : wpAny (model X.prog X.w) A (subscriptTail value slice a b) Q NoE s := by
  unfold fItem at hf
  split at hf
  · rename_i l i
    split at hf <;> try (cases hf; done)
    rename_i hi
    have hi := Nat.le_of_ble_eq_true hi
    cases rb
    cases ra with
    | list e rs =>
      obtain ⟨v, hv, rv⟩ := rs.get hf
      have hL : s.heap.IsList _ _ := ⟨_, g _ _ e, rfl, _, rfl⟩
      refine sub_tail hL.typeIs slot_list_getitem.lookup (getItem_listL hL (Int.natCast_nonneg _) (by show (Int.ofNat i) < 2 ^ 63; simp; lia) (by simpa using hv) (hQ _ _ _ (.refl g) rv)) (hs _ _)
  · rename_i l i
    split at hf <;> try (cases hf; done)
    rename_i hi
    have hi := Nat.le_of_ble_eq_true hi
    cases rb
    cases ra with
    | tup e rs =>
      obtain ⟨v, hv, rv⟩ := rs.get hf
      have hL : IsTup s.heap _ _ := ⟨_, g _ _ e, rfl, _, rfl⟩
      have hlt := (List.getElem?_eq_some_iff.mp hv).1
      refine sub_tail hL.typeIs slot_tuple_getitem.lookup (PyProof.Rows.getItem_tuple (j := i) hL (Int.le_trans (by decide) (Int.natCast_nonneg _)) (by show (Int.ofNat i) < 2 ^ 63; simp; lia) ?_ (by simpa using hv) (hQ _ _ _ (.refl g) rv)) (hs _ _)
      rw [List.size_toArray]; exact seqIndex_nat hlt
  · rename_i x i
    split at hf <;> try (cases hf; done)
    rename_i hi
    have hi := Nat.le_of_ble_eq_true hi
    split at hf <;> try (cases hf; done)
    rename_i c hc
    cases hf
    cases rb
    cases ra
    have hlt := (Array.getElem?_eq_some_iff.mp hc).1
    refine sub_tail (typeIs_str s _ _) slot_str_getitem.lookup (getItem_str ?_ ?_ (hQ _ _ _ (.toks g _) (.str _ _))) (hs _ _)
    · simp; lia
    · show (seqIndex? (Int.ofNat i) x.cps.size).bind _ = _
      rw [seqIndex_nat hlt]; exact hc
  · cases hf
noncomputable def dItem (a b : Den) : Den := dBin fItem a b
theorem e_item {v i : Expr} {pos : Pos} {da db : Den} (ha : EOk X n lay v da) (hb : EOk X n lay i db) (hs : ∀ o j, ∃ l, subscripted i false o j = operate l (getItem o j) := by intro _ _; exact ⟨_, rfl⟩) :
    EOk X n lay (.Subscript v i pos) (dItem da db) := by
  intro A env W ρ s p Q rm e hd hQ
  unfold dItem dBin at hd
  split at hd <;> try (cases hd; done)
  rename_i a hda
  split at hd <;> try (cases hd; done)
  rename_i b hdb
  refine Subscript_ (ha A env W ρ s a _ rm e hda fun v s₁ W₁ r₁ p₁ => ?_)
  refine hb A env W₁ ρ s₁ b _ rm (e.res r₁) hdb fun u s₂ W₂ r₂ p₂ => ?_
  exact item_ok r₂.good (p₁.mono r₂.le) p₂ hd hs fun w s₃ W₃ r₃ p₃ => hQ w s₃ W₃ ((r₁.trans r₂).trans r₃) p₃

/- calls -/
noncomputable def CallOk (X : Top0) (n : Nat) (f : Value) (F : List PV → Option PV) : Prop :=
  ∀ (A : Around) (W : Fz) (s : Shared) (vs : List Value) (ps : List PV) (r : PV) (Q : Value → Shared → Prop), Room A n → X.W₀.le W → Good W s.heap → Reps W vs ps → F ps = some r → After W s r Q →
    wpAny (model X.prog X.w) A (call f vs) Q NoE s
noncomputable def dCall (F : List PV → Option PV) (ds : Dens) : Den := fun ρ => match ds ρ with
  | some ps => F ps
  | none => none
theorem name_glob {A : Around} {env : Env} {ρ : List Slot} {W : Fz} {s : Shared} {x : Str} {pos : Pos} {v : Value} {Q : Value → Shared → Prop} (e : EnvOk X env lay ρ W s) (hx : lay.names.lookup x = some .globalImplicit) (hv : X.mg x = some v) (h : Q v s)
    (hd : (x == ("__debug__" : Str)) = false) : wpAny (model X.prog X.w) A (eval (.Name x pos) env) Q NoE s := by
  refine Calls.Name_function_global e.kind ((e.kindOf x).trans hx) ?_ hd
  have := X.g s.heap e.good0
  rw [← e.glob] at this
  exact Calls.loadGlobal_global this hv h
theorem name_blt {A : Around} {env : Env} {ρ : List Slot} {W : Fz} {s : Shared} {x : Str} {pos : Pos} {v : Value} {Q : Value → Shared → Prop} (e : EnvOk X env lay ρ W s) (hx : lay.names.lookup x = some .globalImplicit) (hg : X.mg x = none) (hv : X.mb x = some v) (h : Q v s)
    (hd : (x == ("__debug__" : Str)) = false) : wpAny (model X.prog X.w) A (eval (.Name x pos) env) Q NoE s := by
  refine Calls.Name_function_global e.kind ((e.kindOf x).trans hx) ?_ hd
  have h1 := X.g s.heap e.good0
  rw [← e.glob] at h1
  have h2 := X.b s.heap e.good0
  rw [← e.blt] at h2
  exact Calls.loadGlobal_builtin h1 hg h2 hv h
theorem e_call {f : Str} {fa : Addr} {o : Obj} {fd : FuncData} {a : Expr} {as : List Expr} {p pos : Pos} {F : List PV → Option PV} {ds : Dens} (hx : lay.names.lookup f = some .globalImplicit) (hv : X.mg f = some (.ref fa)) (ho : X.W₀ fa = some o) (hd : o.data = .func fd)
    (hF : CallOk X n (.ref fa) F) (h : EsOk X n lay (a :: as) ds) (hs : ∀ env, starEach (a :: as) env = (false, eval a env) :: starEach as env := by intro _; rfl) (hdb : (f == ("__debug__" : Str)) = false := by decide) :
    EOk X n lay (.Call (.Name f p) (a :: as) [] pos) (dCall F ds) := by
  intro A env W ρ s r Q rm e hd' hQ
  unfold dCall at hd'
  split at hd' <;> try (cases hd'; done)
  rename_i ps hps
  refine Call_ (name_glob e hx hv ?_ hdb) rfl
  refine callWith_def hd (h.run A env W ρ s ps pos _ rm e hps fun vs s₁ W₁ r₁ p₁ => ?_) (hs env)
  have e₁ := e.res r₁
  exact ⟨e₁.good0 _ _ ho, hF A W₁ s₁ vs ps r Q rm e₁.base r₁.good p₁ hd' fun v s₂ W₂ r₂ p₂ => hQ v s₂ W₂ (r₁.trans r₂) p₂⟩
theorem e_blt {f : Str} {id : String} {a : Expr} {as : List Expr} {p pos : Pos} {F : List PV → Option PV} {ds : Dens} (hx : lay.names.lookup f = some .globalImplicit) (hg : X.mg f = none) (hv : X.mb f = some (.builtin id))
    (hF : CallOk X n (.builtin id) F) (h : EsOk X n lay (a :: as) ds) (hs : ∀ env, starEach (a :: as) env = (false, eval a env) :: starEach as env := by intro _; rfl) (hdb : (f == ("__debug__" : Str)) = false := by decide) :
    EOk X n lay (.Call (.Name f p) (a :: as) [] pos) (dCall F ds) := by
  intro A env W ρ s r Q rm e hd' hQ
  unfold dCall at hd'
  split at hd' <;> try (cases hd'; done)
  rename_i ps hps
  refine Call_ (name_blt e hx hg hv ?_ hdb) rfl
  refine callWith_builtin1 (h.run A env W ρ s ps pos _ rm e hps fun vs s₁ W₁ r₁ p₁ => ?_) (hs env) ?_
  · have e₁ := e.res r₁
    exact hF A W₁ s₁ vs ps r Q rm e₁.base r₁.good p₁ hd' fun v s₂ W₂ r₂ p₂ => hQ v s₂ W₂ (r₁.trans r₂) p₂
  · have := h.plain env pos
    rw [hs] at this
    exact this
theorem e_typ {f : Str} {T : String} {a : Expr} {as : List Expr} {p pos : Pos} {F : List PV → Option PV} {ds : Dens} (hx : lay.names.lookup f = some .globalImplicit) (hg : X.mg f = none) (hv : X.mb f = some (.type T))
    (hF : CallOk X n (.type T) F) (h : EsOk X n lay (a :: as) ds) (hs : ∀ env, starEach (a :: as) env = (false, eval a env) :: starEach as env := by intro _; rfl) (hdb : (f == ("__debug__" : Str)) = false := by decide) :
    EOk X n lay (.Call (.Name f p) (a :: as) [] pos) (dCall F ds) := by
  intro A env W ρ s r Q rm e hd' hQ
  unfold dCall at hd'
  split at hd' <;> try (cases hd'; done)
  rename_i ps hps
  refine Call_ (name_blt e hx hg hv ?_ hdb) rfl
  refine PyProof.Rows.callWith_type1 (h.run A env W ρ s ps pos _ rm e hps fun vs s₁ W₁ r₁ p₁ => ?_) (hs env) ?_
  · have e₁ := e.res r₁
    exact hF A W₁ s₁ vs ps r Q rm e₁.base r₁.good p₁ hd' fun v s₂ W₂ r₂ p₂ => hQ v s₂ W₂ (r₁.trans r₂) p₂
  · have := h.plain env pos
    rw [hs] at this
    exact this

/- methods -/
noncomputable def GetOk (X : Top0) (name : Str) (id : String) (dom : PV → Bool) : Prop :=
  ∀ (A : Around) (W : Fz) (s : Shared) (v : Value) (p : PV) (pl : Sem Bool) (Q : Value × List Value → Shared → Prop), Good W s.heap → Rep W v p → dom p = true → Q (.builtin id, [v]) s → wpAny (model X.prog X.w) A (getMethod v name pl) Q NoE s
noncomputable def dMeth (dom : PV → Bool) (F : List PV → Option PV) (d : Den) (ds : Dens) : Den := fun ρ => match d ρ with
  | some p => match dom p with
    | true => match ds ρ with
      | some ps => F (p :: ps)
      | none => none
    | false => none
  | none => none
/-- a method's call, one argument or more -/
theorem e_meth {o : Expr} {name : Str} {id : String} {apos pos : Pos} {a : Expr} {as : List Expr} {dom : PV → Bool} {F : List PV → Option PV} {d : Den} {ds : Dens} (ho : EOk X n lay o d) (hG : GetOk X name id dom) (hF : CallOk X n (.builtin id) F)
    (h : EsOk X n lay (a :: as) ds) (hs : ∀ env, starEach (a :: as) env = (false, eval a env) :: starEach as env := by intro _; rfl)
    (he : ∀ env, ∃ pl, eval (.Call (.Attribute o name apos) (a :: as) [] pos) env = (do
      let ov ← eval o env
      standAt apos.atName
      let (f, first) ← holding [ov] (getMethod ov name pl)
      callWith pos f first (backTo pos (starEach (a :: as) env)) []) := by intro env; exact ⟨_, rfl⟩) :
    EOk X n lay (.Call (.Attribute o name apos) (a :: as) [] pos) (dMeth dom F d ds) := by
  intro A env W ρ s r Q rm e hd' hQ
  unfold dMeth at hd'
  split at hd' <;> try (cases hd'; done)
  rename_i p hp
  split at hd' <;> try (cases hd'; done)
  rename_i hdom
  split at hd' <;> try (cases hd'; done)
  rename_i ps hps
  obtain ⟨pl, he⟩ := he env
  refine MethodCall_ (ho A env W ρ s p _ rm e hp fun v s₁ W₁ r₁ p₁ => ?_) he
  refine hG A W₁ s₁ v p pl _ r₁.good p₁ hdom ?_
  refine callWith_method1 (h.run A env W₁ ρ s₁ ps pos _ rm (e.res r₁) hps fun vs s₂ W₂ r₂ p₂ => ?_) (hs env) ?_
  · have e₂ := (e.res r₁).res r₂
    exact hF A W₂ s₂ _ (p :: ps) r Q rm e₂.base r₂.good (.cons (p₁.mono r₂.le) p₂) hd' fun v s₃ W₃ r₃ p₃ => hQ v s₃ W₃ ((r₁.trans r₂).trans r₃) p₃
  · have := h.plain env pos
    rw [hs] at this
    exact this
end
end Mine
end

section
open PySem PySem.W PySem.W.X PySem.W.ZRun PyProof.Rows
set_option Elab.async false
set_option autoImplicit false

namespace Mine

theorem Ns_unique {h : Heap} {a : Addr} {m m' : Str → Option Value} (x : h.Ns a m) (y : h.Ns a m') : m = m' := by
  obtain ⟨o, es, ep, ho, hd, _, hm⟩ := x
  obtain ⟨o', es', ep', ho', hd', _, hm'⟩ := y
  rw [ho] at ho'; cases ho'
  rw [hd] at hd'; cases hd'
  funext n
  rw [← hm, ← hm']
theorem Ns_ne_cell {h : Heap} {a c : Addr} {m : Str → Option Value} {v : Option Value} (x : h.Ns a m) (y : h.IsCell c v) : c ≠ a := by
  rintro rfl
  obtain ⟨o, es, ep, ho, hd, _⟩ := x
  obtain ⟨o', ho', hd'⟩ := y
  rw [ho] at ho'; cases ho'
  rw [hd] at hd'; cases hd'
noncomputable abbrev listObj (vs : List Value) (n : Nat) : Obj := { cls := .type "list", data := .seq vs.toArray n }
theorem Ns_ne_list {h : Heap} {a c : Addr} {m : Str → Option Value} {vs : List Value} {n : Nat} (x : h.Ns a m) (y : h.get? c = some (listObj vs n)) : c ≠ a := by
  rintro rfl
  obtain ⟨o, es, ep, ho, hd, _⟩ := x
  rw [y] at ho; cases ho
  cases hd
theorem cell_ne_list {h : Heap} {a c : Addr} {v : Option Value} {vs : List Value} {n : Nat} (x : h.IsCell a v) (y : h.get? c = some (listObj vs n)) : c ≠ a := by
  rintro rfl
  obtain ⟨o, ho, hd⟩ := x
  rw [y] at ho; cases ho
  cases hd

structure GK (s s' : Shared) : Prop where
  os : s'.os = s.os
  gens : ∀ (g : Nat) (x : GenState), s.gens[g]? = some x → s'.gens[g]? = some x
  bare : AllBare s.gens → AllBare s'.gens
theorem GK.refl {s : Shared} : GK s s := ⟨rfl, fun _ _ h => h, fun h => h⟩
theorem GK.trans {s s' s'' : Shared} (a : GK s s') (b : GK s' s'') : GK s s'' := ⟨b.os.trans a.os, fun g x h => b.gens g x (a.gens g x h), fun h => b.bare (a.bare h)⟩
theorem Stp.gk {s s' : Shared} (a : Stp s s') : GK s s' := ⟨a.os, a.gens, a.bare⟩
theorem GK.heap {s : Shared} {h : Heap} {t : Nat} : GK s { s with heap := h, toks := t } := ⟨rfl, fun _ _ h => h, fun h => h⟩

/-- an owned list: not frozen, known to the frame alone -/
structure OwnAt (b : Shared) (W : Fz) (h : Heap) (a : Addr) (l : List PV) : Prop where
  obj : ∃ vs n, h.get? a = some (listObj vs n) ∧ Reps W vs l
  fz : W a = none
  new : b.heap.get? a = none

structure Frm (X : Top0) (b : Shared) (Wb : Fz) (env : Env) (lay : Lay) (ρ : List Slot) (W : Fz) (s : Shared) : Prop where
  e : EnvOk X env lay ρ W s
  res : Res Wb b W s
  ns : ∃ m, s.heap.Ns env.locals m
  lnew : b.heap.get? env.locals = none
  lfz : W env.locals = none
  kinds : ∀ (i : Nat) (x : Str), i < lay.wr → lay.slots[i]? = some x → env.kindOf x = some .local ∨ (env.kindOf x = some .cell ∧ ∃ c v, env.cells.lookup x = some c ∧ s.heap.IsCell c v ∧ b.heap.get? c = none ∧ W c = none)
  apart : ∀ (i : Nat) (x y : Str) (c : Addr), i < lay.wr → lay.slots[i]? = some x → env.kindOf x = some .cell → env.cells.lookup x = some c → env.cells.lookup y = some c → y = x
  nodup : ∀ (i j : Nat) (x : Str), lay.slots[i]? = some x → lay.slots[j]? = some x → i = j
  own : ∃ f : Nat → Addr, (∀ (i : Nat) (x : Str) (l : List PV), lay.slots[i]? = some x → ρ[i]? = some (Slot.own l) → NameIs env s.heap x (.ref (f i)) ∧ OwnAt b W s.heap (f i) l) ∧
    ∀ (i j : Nat) (x y : Str) (l l' : List PV), lay.slots[i]? = some x → lay.slots[j]? = some y → ρ[i]? = some (Slot.own l) → ρ[j]? = some (Slot.own l') → f i = f j → i = j

section
variable {X : Top0} {n : Nat} {lay : Lay} {b : Shared} {Wb : Fz} {env : Env} {ρ : List Slot} {W W' : Fz} {s s' : Shared}

theorem OwnAt.res {a : Addr} {l : List PV} (o : OwnAt b W s.heap a l) (r : Res W s W' s') : OwnAt b W' s'.heap a l := by
  obtain ⟨vs, k, ho, hr⟩ := o.obj
  refine ⟨⟨vs, k, r.stp.keep _ _ ho, hr.mono r.le⟩, ?_, o.new⟩
  cases e : W' a with
  | none => rfl
  | some o' => rw [r.news a o' e o.fz] at ho; cases ho
theorem Res.stays {a : Addr} {o : Obj} (r : Res W s W' s') (h : W a = none) (ho : s.heap.get? a = some o) : W' a = none := by
  cases e : W' a with
  | none => rfl
  | some o' => rw [r.news a o' e h] at ho; cases ho

theorem Frm.step (F : Frm X b Wb env lay ρ W s) (r : Res W s W' s') : Frm X b Wb env lay ρ W' s' := by
  obtain ⟨m, hm⟩ := F.ns
  refine ⟨F.e.res r, F.res.trans r, ⟨m, hm.keeps r.stp.keep⟩, F.lnew, ?_, fun i x hi hx => ?_, F.apart, F.nodup, ?_⟩
  · obtain ⟨o, es, ep, ho, _⟩ := hm
    exact r.stays F.lfz ho
  · rcases F.kinds i x hi hx with h | ⟨h, c, v, h1, h2, h3, h4⟩
    · exact .inl h
    · obtain ⟨o, ho, hd⟩ := h2
      exact .inr ⟨h, c, v, h1, ⟨o, r.stp.keep _ _ ho, hd⟩, h3, r.stays h4 ho⟩
  · obtain ⟨f, hf, hf'⟩ := F.own
    exact ⟨f, fun i x l hx hl => let ⟨h1, h2⟩ := hf i x l hx hl; ⟨h1.keeps r.stp.keep, h2.res r⟩, hf'⟩

/-- a heap that differs at one address of the frame's own -/
theorem NameIs.sameBut_local {h h' : Heap} {L : Addr} {x y : Str} {v u : Value} {m : Str → Option Value} (hL : L = env.locals) (hm : h.Ns L m) (nm : NameIs env h y u) (hs : Heap.SameBut L h h')
    (hn : h'.Ns L (fun z => if z = x then some v else m z)) (hk : env.kindOf x = some .local) (hne : y ≠ x) : NameIs env h' y u := by
  subst hL
  rcases nm with ⟨e, m', hn', hv⟩ | ⟨e, c, hc, hv⟩
  · cases Ns_unique hm hn'
    exact .inl ⟨e, _, hn, by simp [hne, hv]⟩
  · exact .inr ⟨e, c, hc, hv.sameBut hs (Ns_ne_cell hm hv)⟩
theorem NameIs.sameBut_cell {h h' : Heap} {c : Addr} {x y : Str} {v₀ : Option Value} {u : Value} {m : Str → Option Value} (hm : h.Ns env.locals m) (hc : env.cells.lookup x = some c) (hv : h.IsCell c v₀) (nm : NameIs env h y u) (hs : Heap.SameBut c h h')
    (apart : ∀ y, env.cells.lookup y = some c → y = x) (hne : y ≠ x) : NameIs env h' y u := by
  rcases nm with ⟨e, m', hn', hv'⟩ | ⟨e, c', hc', hv'⟩
  · exact .inl ⟨e, m', hn'.sameBut hs (Ns_ne_cell hn' hv).symm, hv'⟩
  · refine .inr ⟨e, c', hc', hv'.sameBut hs ?_⟩
    rintro rfl
    exact hne (apart y hc')

/-- the frame's heap turned at one address of its own that bears no list -/
theorem Frm.turn (F : Frm X b Wb env lay ρ W s) {c : Addr} {h' : Heap} {tk : Nat} (hs : Heap.SameBut c s.heap h') (hb : b.heap.get? c = none) (hW : W c = none) : Res Wb b W { s with heap := h', toks := tk } :=
  ⟨F.res.le, fun a o e => by
    have : a ≠ c := fun q => by rw [q, hW] at e; cases e
    exact (hs.2 a this).trans (F.e.good a o e), ⟨fun a o e => by
    have : a ≠ c := fun q => by rw [q, hb] at e; cases e
    exact (hs.2 a this).trans (F.res.stp.keep a o e), F.res.stp.os, F.res.stp.gens, F.res.stp.bare⟩, F.res.news⟩

theorem get_set_self {α : Type} {l : List α} {i : Nat} {a b : α} (h : l[i]? = some a) : (l.set i b)[i]? = some b := by
  have := (List.getElem?_eq_some_iff.mp h).1
  simp [this]
/-- a value laid into a slot, once the name holds it -/
theorem slot_set {i j : Nat} {p : Slot} {q : Slot} (h : (ρ.set i p)[j]? = some q) : (j = i ∧ q = p) ∨ (j ≠ i ∧ ρ[j]? = some q) := by
  by_cases e : i = j
  · subst e
    left
    rw [List.getElem?_set_self'] at h
    refine ⟨rfl, ?_⟩
    cases e' : ρ[i]? with
    | none => rw [e'] at h; cases h
    | some _ => rw [e'] at h; cases h; rfl
  · right
    rw [List.getElem?_set_ne e] at h
    exact ⟨fun q => e q.symm, h⟩

/-- the names that stay -/
theorem Frm.store {A : Around} {i : Nat} {x : Str} {v : Value} {p : Slot} {Q : Unit → Shared → Prop} (F : Frm X b Wb env lay ρ W s) (hi : i < lay.wr) (hx : lay.slots[i]? = some x)
    (hp : ∀ q, p = .val q → Rep W v q)
    (hown : ∀ l, p = .own l → ∃ a, v = .ref a ∧ OwnAt b W s.heap a l ∧ ∀ (j : Nat) (y : Str) (l' : List PV), lay.slots[j]? = some y → ρ[j]? = some (Slot.own l') → j ≠ i → ¬ NameIs env s.heap y (.ref a))
    (h : ∀ c h' tk, Frm X b Wb env lay (ρ.set i p) W { s with heap := h', toks := tk } → Heap.SameBut c s.heap h' → b.heap.get? c = none → W c = none → (c = env.locals ∨ ∃ u, s.heap.IsCell c u) → Q () { s with heap := h', toks := tk }) :
    wpAny (model X.prog X.w) A (storeName env x v) Q NoE s := by
  obtain ⟨m, hm⟩ := F.ns
  obtain ⟨f, hf, hf'⟩ := F.own
  -- what is left to show, once for both kinds
  have fin : ∀ (c : Addr) (h' : Heap) (tk : Nat), Heap.SameBut c s.heap h' → b.heap.get? c = none → W c = none → (∃ m', h'.Ns env.locals m') → NameIs env h' x v →
      (∀ (y : Str) (u : Value), y ≠ x → NameIs env s.heap y u → NameIs env h' y u) →
      (∀ (j : Nat) (y : Str) (c' : Addr) (u : Option Value), lay.slots[j]? = some y → env.cells.lookup y = some c' → s.heap.IsCell c' u → ∃ u', h'.IsCell c' u') →
      (∀ (a : Addr) (vs : List Value) (k : Nat), s.heap.get? a = some (listObj vs k) → h'.get? a = some (listObj vs k)) → Frm X b Wb env lay (ρ.set i p) W { s with heap := h', toks := tk } := by
    intro c h' tk hs hb hW hns hnm hoth hcell hlist
    have ownK : ∀ a l, OwnAt b W s.heap a l → OwnAt b W h' a l := fun a l ⟨⟨vs, k, ho, hr⟩, h1, h2⟩ => ⟨⟨vs, k, hlist a vs k ho, hr⟩, h1, h2⟩
    have hneq : ∀ (j : Nat) (y : Str), lay.slots[j]? = some y → j ≠ i → y ≠ x := fun j y hy hj q => hj (F.nodup j i x (q ▸ hy) hx)
    refine ⟨⟨(F.turn (tk := tk) hs hb hW).good, F.e.base, F.e.kind, F.e.glob, F.e.blt, F.e.names, F.e.cellsAt, fun j y q hy hq => ?_⟩, F.turn hs hb hW, hns, F.lnew, F.lfz, fun j y hj hy => ?_, F.apart, F.nodup, ?_⟩
    · rcases slot_set hq with ⟨rfl, e⟩ | ⟨hj, hq⟩
      · rw [hx] at hy; cases hy
        exact ⟨v, hnm, hp q e.symm⟩
      · obtain ⟨u, hu, hr⟩ := F.e.slot j y q hy hq
        exact ⟨u, hoth y u (hneq j y hy hj) hu, hr⟩
    · rcases F.kinds j y hj hy with h | ⟨h, c', u, h1, h2, h3, h4⟩
      · exact .inl h
      · obtain ⟨u', hu'⟩ := hcell j y c' u hy h1 h2
        exact .inr ⟨h, c', u', h1, hu', h3, h4⟩
    · cases hpo : p with
      | own l =>
        obtain ⟨a, hva, hoa, hdis⟩ := hown l hpo
        refine ⟨fun j => if j = i then a else f j, fun j y l' hy hl => ?_, fun j k y z l1 l2 hy hz h1 h2 he => ?_⟩
        · rcases slot_set hl with ⟨rfl, e⟩ | ⟨hj, hl⟩
          · rw [hx] at hy; cases hy
            cases e
            simp only [if_true]
            exact ⟨hva ▸ hnm, ownK _ _ hoa⟩
          · simp only [if_neg hj]
            obtain ⟨h1, h2⟩ := hf j y l' hy hl
            exact ⟨hoth y _ (hneq j y hy hj) h1, ownK _ _ h2⟩
        · rcases slot_set h1 with ⟨ej, e1⟩ | ⟨hj, h1⟩ <;> rcases slot_set h2 with ⟨ek, e2⟩ | ⟨hk, h2⟩
          · rw [ej, ek]
          · exfalso
            simp only [ej, if_true, if_neg hk] at he
            refine hdis k z l2 hz h2 hk ?_
            rw [he]; exact (hf k z l2 hz h2).1
          · exfalso
            simp only [ek, if_true, if_neg hj] at he
            refine hdis j y l1 hy h1 hj ?_
            rw [← he]; exact (hf j y l1 hy h1).1
          · simp only [if_neg hj, if_neg hk] at he
            exact hf' j k y z l1 l2 hy hz h1 h2 he
      | unset | val q =>
        refine ⟨f, fun j y l' hy hl => ?_, fun j k y z l1 l2 hy hz h1 h2 he => ?_⟩
        · rcases slot_set hl with ⟨rfl, e⟩ | ⟨hj, hl⟩
          · cases e
          · obtain ⟨h1, h2⟩ := hf j y l' hy hl
            exact ⟨hoth y _ (hneq j y hy hj) h1, ownK _ _ h2⟩
        · rcases slot_set h1 with ⟨ej, e1⟩ | ⟨hj, h1⟩
          · cases e1
          · rcases slot_set h2 with ⟨ek, e2⟩ | ⟨hk, h2⟩
            · cases e2
            · exact hf' j k y z l1 l2 hy hz h1 h2 he
  rcases F.kinds i x hi hx with hk | ⟨hk, c, v₀, hc, hcell, hcb, hcW⟩
  · refine wpAny_storeName_local hk hm (fun h' hn' hs' => ?_) (by rw [F.e.kind]; rfl)
    refine h env.locals h' _ (fin env.locals h' _ hs' F.lnew F.lfz ⟨_, hn'⟩ (.inl ⟨hk, _, hn', by simp⟩) (fun y u hy hu => hu.sameBut_local rfl hm hs' hn' hk hy)
      (fun j y c' u hy hc' hu => ⟨u, hu.sameBut hs' (Ns_ne_cell hm hu)⟩) fun a vs k ha => (hs'.2 a (Ns_ne_list hm ha)).trans ha) hs' F.lnew F.lfz (.inl rfl)
  · refine wpAny_storeName_cell F.e.kind hk hc hcell fun h' hc' hs' => ?_
    have := h c h' s.toks (fin c h' s.toks hs' hcb hcW ⟨m, hm.sameBut hs' (Ns_ne_cell hm hcell).symm⟩ (.inr ⟨hk, c, hc, hc'⟩) (fun y u hy hu => hu.sameBut_cell hm hc hcell hs' (fun y hy => F.apart i x y c hi hx hk hc hy) hy)
      (fun j y c'' u hy hc'' hu => ?_) fun a vs k ha => (hs'.2 a (cell_ne_list hcell ha)).trans ha) hs' hcb hcW (.inr ⟨v₀, hcell⟩)
    · exact this
    · by_cases e : c'' = c
      · subst e; exact ⟨_, hc'⟩
      · exact ⟨u, hu.sameBut hs' e⟩
end
end Mine
end

section
open PySem PySem.W PySem.W.X PySem.W.ZRun PyProof.Rows
set_option Elab.async false
set_option autoImplicit false

namespace Mine

inductive Flw where
  | next
  | brk
  | cont
  | ret (p : PV)
noncomputable def FlowIs (W : Fz) : Flow → Flw → Prop
  | .next, .next => True
  | .brk, .brk => True
  | .cont, .cont => True
  | .ret v, .ret p => Rep W v p
  | _, _ => False

noncomputable abbrev DenS := List Slot → Option (Flw × List Slot)
/-- what is left behind a statement -/
noncomputable abbrev AfterS (X : Top0) (b : Shared) (Wb : Fz) (env : Env) (lay : Lay) (W : Fz) (s : Shared) (f : Flw) (ρ' : List Slot) (Q : Flow → Shared → Prop) : Prop :=
  ∀ fl s' W', W.le W' → Frm X b Wb env lay ρ' W' s' → GK s s' → FlowIs W' fl f → Q fl s'
noncomputable def StOk (X : Top0) (n : Nat) (lay : Lay) (st : Stmt) (D : DenS) : Prop :=
  ∀ (A : Around) (env : Env) (b : Shared) (Wb W : Fz) (ρ : List Slot) (s : Shared) (f : Flw) (ρ' : List Slot) (Q : Flow → Shared → Prop),
    Room A n → Frm X b Wb env lay ρ W s → D ρ = some (f, ρ') → AfterS X b Wb env lay W s f ρ' Q → wpAny (model X.prog X.w) A (exec st env) Q NoE s
noncomputable def SOk (X : Top0) (n : Nat) (lay : Lay) (ss : List Stmt) (D : DenS) : Prop :=
  ∀ (A : Around) (env : Env) (b : Shared) (Wb W : Fz) (ρ : List Slot) (s : Shared) (f : Flw) (ρ' : List Slot) (Q : Flow → Shared → Prop),
    Room A n → Frm X b Wb env lay ρ W s → D ρ = some (f, ρ') → AfterS X b Wb env lay W s f ρ' Q → wpAny (model X.prog X.w) A (execs ss env) Q NoE s

section
variable {X : Top0} {n : Nat} {lay : Lay}

noncomputable def dDone : DenS := fun ρ => some (.next, ρ)
noncomputable def dSeq (d e : DenS) : DenS := fun ρ => match d ρ with
  | some (f, ρ') => match f with
    | .next => e ρ'
    | f => some (f, ρ')
  | none => none
theorem s_nil : SOk X n lay [] dDone := by
  intro A env b Wb W ρ s f ρ' Q rm F hd hQ
  cases hd
  exact wpAny_execs_nil (hQ .next s W .refl F .refl trivial)
theorem s_cons {st : Stmt} {ss : List Stmt} {d e : DenS} (h1 : StOk X n lay st d) (h2 : SOk X n lay ss e) : SOk X n lay (st :: ss) (dSeq d e) := by
  intro A env b Wb W ρ s f ρ' Q rm F hd hQ
  unfold dSeq at hd
  split at hd <;> try (cases hd; done)
  rename_i f₁ ρ₁ hd1
  refine wpAny_execs_cons (h1 A env b Wb W ρ s f₁ ρ₁ _ rm F hd1 fun fl s₁ W₁ le₁ F₁ k₁ hf => ?_)
  split at hd
  · cases fl <;> simp only [FlowIs] at hf
    exact h2 A env b Wb W₁ ρ₁ s₁ f ρ' Q rm F₁ hd fun fl s₂ W₂ le₂ F₂ k₂ hf₂ => hQ fl s₂ W₂ (le₁.trans le₂) F₂ (k₁.trans k₂) hf₂
  · rename_i hne
    cases hd
    cases fl with
    | next => exfalso; cases f <;> first | exact hne rfl | exact hf
    | brk => exact hQ _ s₁ W₁ le₁ F₁ k₁ hf
    | cont => exact hQ _ s₁ W₁ le₁ F₁ k₁ hf
    | ret v => exact hQ _ s₁ W₁ le₁ F₁ k₁ hf

/- return -/
noncomputable def dRet (d : Den) : DenS := fun ρ => match d ρ with
  | some p => some (.ret p, ρ)
  | none => none
theorem st_ret {e : Expr} {pos : Pos} {d : Den} (h : EOk X n lay e d) : StOk X n lay (.Return (some e) pos) (dRet d) := by
  intro A env b Wb W ρ s f ρ' Q rm F hd hQ
  unfold dRet at hd
  split at hd <;> try (cases hd; done)
  rename_i p hp
  cases hd
  exact wpAny_Return_some (h A env W ρ s p _ rm F.e hp fun v s₁ W₁ r₁ p₁ => hQ (.ret v) s₁ W₁ r₁.le (F.step r₁) r₁.stp.gk p₁)

/- if -/
noncomputable def dIfS (t : DenB) (a c : DenS) : DenS := fun ρ => match t ρ with
  | some true => a ρ
  | some false => c ρ
  | none => none
theorem st_if {t : Expr} {a c : List Stmt} {pos : Pos} {dt : DenB} {da dc : DenS} (ht : TOk X n lay t dt) (ha : SOk X n lay a da) (hc : SOk X n lay c dc) : StOk X n lay (.If t a c pos) (dIfS dt da dc) := by
  intro A env b Wb W ρ s f ρ' Q rm F hd hQ
  unfold dIfS at hd
  split at hd
  · rename_i h
    refine wpAny_If (ht A env W ρ s true _ rm F.e h fun s₁ W₁ r₁ => ?_)
    rw [if_pos rfl]
    exact ha A env b Wb W₁ ρ s₁ f ρ' Q rm (F.step r₁) hd fun fl s₂ W₂ le₂ F₂ k₂ hf => hQ fl s₂ W₂ (r₁.le.trans le₂) F₂ (r₁.stp.gk.trans k₂) hf
  · rename_i h
    refine wpAny_If (ht A env W ρ s false _ rm F.e h fun s₁ W₁ r₁ => ?_)
    rw [if_neg Bool.false_ne_true]
    exact hc A env b Wb W₁ ρ s₁ f ρ' Q rm (F.step r₁) hd fun fl s₂ W₂ le₂ F₂ k₂ hf => hQ fl s₂ W₂ (r₁.le.trans le₂) F₂ (r₁.stp.gk.trans k₂) hf
  · cases hd

/- a name gets a value -/
noncomputable def KpE (env : Env) (s s' : Shared) : Prop := ∀ a o, s.heap.get? a = some o → a ≠ env.locals → (∀ v, o.data ≠ .cell v) → s'.heap.get? a = some o
theorem KpE.refl {env : Env} {s : Shared} : KpE env s s := fun _ _ h _ _ => h
theorem KpE.trans {env : Env} {s s' s'' : Shared} (a : KpE env s s') (c : KpE env s' s'') : KpE env s s'' := fun x o h h1 h2 => c x o (a x o h h1 h2) h1 h2
theorem Stp.kpE {env : Env} {s s' : Shared} (a : Stp s s') : KpE env s s' := fun x o h _ _ => a.keep x o h
theorem Frm.putK {A : Around} {b : Shared} {Wb : Fz} {env : Env} {ρ : List Slot} {W : Fz} {s : Shared} {i : Nat} {x : Str} {v : Value} {p : PV} {Q : Unit → Shared → Prop} (F : Frm X b Wb env lay ρ W s) (hi : i < lay.wr) (hx : lay.slots[i]? = some x) (hp : Rep W v p)
    (h : ∀ s', Frm X b Wb env lay (ρ.set i (.val p)) W s' → GK s s' → KpE env s s' → Q () s') : wpAny (model X.prog X.w) A (storeName env x v) Q NoE s :=
  F.store hi hx (fun q e => by cases e; exact hp) (fun l e => by cases e) fun c h' tk F' hs _ _ hc => h _ F' .heap fun a o ho h1 h2 => by
    refine (hs.2 a fun q => ?_).trans ho
    subst q
    rcases hc with e | ⟨u, o', ho', hd'⟩
    · exact h1 e
    · rw [ho] at ho'; cases ho'
      exact h2 u hd'
theorem Frm.put {A : Around} {b : Shared} {Wb : Fz} {env : Env} {ρ : List Slot} {W : Fz} {s : Shared} {i : Nat} {x : Str} {v : Value} {p : PV} {Q : Unit → Shared → Prop} (F : Frm X b Wb env lay ρ W s) (hi : i < lay.wr) (hx : lay.slots[i]? = some x) (hp : Rep W v p)
    (h : ∀ s', Frm X b Wb env lay (ρ.set i (.val p)) W s' → GK s s' → Q () s') : wpAny (model X.prog X.w) A (storeName env x v) Q NoE s :=
  F.putK hi hx hp fun s' F' k _ => h s' F' k
noncomputable def dSet (i : Nat) (d : Den) : DenS := fun ρ => match d ρ with
  | some p => some (.next, ρ.set i (.val p))
  | none => none
theorem st_assign {x : Str} {px pos : Pos} {e : Expr} {d : Den} (i : Nat) (hi : i < lay.wr) (hx : lay.slots[i]? = some x) (h : EOk X n lay e d)
    (hs : ∀ env, env.scope.kind = .function → env.scope.names = lay.names → swapsWith e (some (.Name x px)) pos.line env = pure false := by intro env _ _; rfl) : StOk X n lay (.Assign [.Name x px] e pos) (dSet i d) := by
  intro A env b Wb W ρ s f ρ' Q rm F hd hQ
  unfold dSet at hd
  split at hd <;> try (cases hd; done)
  rename_i p hp
  cases hd
  refine wpAny_Assign_Name (h A env W ρ s p _ rm F.e hp fun v s₁ W₁ r₁ p₁ => ?_) (hs env F.e.kind F.e.names)
  exact (F.step r₁).put hi hx p₁ fun s₂ F₂ k₂ => hQ .next s₂ W₁ r₁.le F₂ (r₁.stp.gk.trans k₂) trivial

/- x op= e -/
noncomputable def InpOk (X : Top0) (op : Operator) (f : PV → PV → Option PV) : Prop :=
  ∀ (A : Around) (W : Fz) (s : Shared) (a b : Value) (p q r : PV) (Q : Value → Shared → Prop), Room A 0 → X.W₀.le W → Good W s.heap → Rep W a p → Rep W b q → f p q = some r →
    After W s r Q → wpAny (model X.prog X.w) A (inplaceOp op a b) Q NoE s
theorem i_addI : InpOk X .Add fAddI := by
  intro A W s a b p q r Q rm hb g ra rb hf hQ
  unfold fAddI at hf
  split at hf <;> try (cases hf; done)
  cases hf
  cases ra; cases rb
  exact iadd_int (hQ _ _ _ (.toks g _) (.int _ _))
theorem i_subI : InpOk X .Sub fSubI := by
  intro A W s a b p q r Q rm hb g ra rb hf hQ
  unfold fSubI at hf
  split at hf <;> try (cases hf; done)
  cases hf
  cases ra; cases rb
  exact isub_int (hQ _ _ _ (.toks g _) (.int _ _))
theorem i_addS : InpOk X .Add fAddS := by
  intro A W s a b p q r Q rm hb g ra rb hf hQ
  unfold fAddS at hf
  split at hf <;> try (cases hf; done)
  cases ra; cases rb
  split at hf
  · rename_i hs
    cases hf
    exact iadd_str (fun t' tk => hQ _ _ _ (.toks g _) (.str _ _)) (Nat.le_of_ble_eq_true hs)
  · cases hf
theorem st_aug {x : Str} {px pos : Pos} {op : Operator} {e : Expr} {d : Den} {g : PV → PV → Option PV} (i : Nat) (hi : i < lay.wr) (hx : lay.slots[i]? = some x) (h : EOk X n lay e d) (hg : InpOk X op g) :
    StOk X n lay (.AugAssign (.Name x px) op e pos) (dSet i (dBin g (dName i) d)) := by
  intro A env b Wb W ρ s f ρ' Q rm F hd hQ
  unfold dSet at hd
  split at hd <;> try (cases hd; done)
  rename_i r hr
  cases hd
  unfold dBin at hr
  split at hr <;> try (cases hr; done)
  rename_i p hp
  split at hr <;> try (cases hr; done)
  rename_i q hq
  unfold dName at hp
  split at hp <;> try (cases hp; done)
  rename_i p' hp'
  cases hp
  obtain ⟨v, hv, rv⟩ := F.e.slot i x _ hx hp'
  refine wpAny_AugAssign_Name (loadName_is F.e.kind hv ?_)
  refine h A env W ρ s q _ rm F.e hq fun u s₁ W₁ r₁ p₁ => ?_
  refine hg A W₁ s₁ v u p q r _ (rm.le (Nat.zero_le _)) (F.e.res r₁).base r₁.good (rv.mono r₁.le) p₁ hr fun w s₂ W₂ r₂ p₂ => ?_
  exact ((F.step r₁).step r₂).put hi hx p₂ fun s₃ F₃ k₃ => hQ .next s₃ W₂ (r₁.le.trans r₂.le) F₃ ((r₁.stp.gk.trans r₂.stp.gk).trans k₃) trivial

/- owned lists -/
noncomputable def dOwn (i : Nat) (ds : Dens) : DenS := fun ρ => match ds ρ with
  | some ps => match Nat.ble ps.length 16777216 with
    | true => some (.next, ρ.set i (.own ps))
    | false => none
  | none => none
theorem st_own {x : Str} {px pos lpos : Pos} {es : List Expr} {ds : Dens} (i : Nat) (hi : i < lay.wr) (hx : lay.slots[i]? = some x) (h : EsOk X n lay es ds) : StOk X n lay (.Assign [.Name x px] (.List es lpos) pos) (dOwn i ds) := by
  intro A env b Wb W ρ s f ρ' Q rm F hd hQ
  unfold dOwn at hd
  split at hd <;> try (cases hd; done)
  rename_i ps hps
  split at hd <;> try (cases hd; done)
  rename_i hl
  cases hd
  refine wpAny_Assign_Name (List_ (h.run A env W ρ s ps _ _ rm F.e hps fun vs s₁ W₁ r₁ p₁ => ?_)) rfl
  have F₁ := F.step r₁
  have hsz : vs.toArray.size ≤ sizeLine := by rw [List.size_toArray, p₁.length]; exact Nat.le_of_ble_eq_true hl
  refine wpAny_newObj_type ?_ hsz
  have rp : Res W₁ s₁ W₁ { s₁ with heap := s₁.heap.push (listObj vs 0), toks := s₁.toks } := .heap r₁.good fun _ _ e => Heap.get?_push_of_some _ e
  have F₂ := F₁.step rp
  have hnone : s₁.heap.get? s₁.heap.objs.size = none := by
    cases q : s₁.heap.get? s₁.heap.objs.size with
    | none => rfl
    | some o => exact absurd (Heap.lt_size q) (Nat.lt_irrefl _)
  have hb : b.heap.get? s₁.heap.objs.size = none := by
    cases q : b.heap.get? s₁.heap.objs.size with
    | none => rfl
    | some o => rw [F₁.res.stp.keep _ _ q] at hnone; cases hnone
  refine F₂.store hi hx (fun q e => by cases e) (fun l e => ?_) fun c h' tk F' _ _ _ _ => hQ .next _ W₁ r₁.le F' (r₁.stp.gk.trans .heap) trivial
  cases e
  refine ⟨_, rfl, ⟨⟨vs, 0, Heap.get?_push_size _ rfl, p₁⟩, r₁.good.size, hb⟩, fun j y l' hy hl' hj hn => ?_⟩
  obtain ⟨f, hf, _⟩ := F₁.own
  obtain ⟨h1, h2⟩ := hf j y l' hy hl'
  obtain ⟨vs', k', ho', _⟩ := h2.obj
  -- the name held another list before
  have h3 := h1.keeps rp.stp.keep
  have : f j = s₁.heap.objs.size := by
    rcases h3 with ⟨e, m, hm, hv⟩ | ⟨e, c, hc, hv⟩ <;> rcases hn with ⟨e', m', hm', hv'⟩ | ⟨e', c', hc', hv'⟩
    · cases Ns_unique hm hm'; rw [hv] at hv'; exact Value.ref.inj (Option.some.inj hv')
    · rw [e] at e'; cases e'
    · rw [e] at e'; cases e'
    · rw [hc] at hc'; cases hc'
      obtain ⟨o1, ho1, hd1⟩ := hv
      obtain ⟨o2, ho2, hd2⟩ := hv'
      rw [ho1] at ho2; cases ho2
      rw [hd1] at hd2; exact Value.ref.inj (Option.some.inj (Data.cell.inj hd2))
  rw [this, hnone] at ho'
  cases ho'
end
end Mine
end

section
open PySem PySem.W PySem.W.X PySem.W.ZRun PyProof.Rows
set_option Elab.async false
set_option autoImplicit false

namespace Mine
section
variable {X : Top0} {n : Nat} {lay : Lay}

theorem NameIs.same {env : Env} {h : Heap} {x : Str} {u v : Value} (a : NameIs env h x u) (c : NameIs env h x v) : u = v := by
  rcases a with ⟨e, m, hm, hv⟩ | ⟨e, d, hd, hv⟩ <;> rcases c with ⟨e', m', hm', hv'⟩ | ⟨e', d', hd', hv'⟩
  · cases Ns_unique hm hm'; rw [hv] at hv'; exact Option.some.inj hv'
  · rw [e] at e'; cases e'
  · rw [e] at e'; cases e'
  · rw [hd] at hd'; cases hd'
    obtain ⟨o1, ho1, hd1⟩ := hv
    obtain ⟨o2, ho2, hd2⟩ := hv'
    rw [ho1] at ho2; cases ho2
    rw [hd1] at hd2; exact Option.some.inj (Data.cell.inj hd2)

/- x.append(e) -/
theorem Frm.app {b : Shared} {Wb : Fz} {env : Env} {ρ : List Slot} {W : Fz} {s : Shared} {i : Nat} {x : Str} {l : List PV} {a : Addr} {vs : List Value} {k : Nat} {v : Value} {p : PV} {h' : Heap} {tk k' : Nat} (F : Frm X b Wb env lay ρ W s)
    (hx : lay.slots[i]? = some x) (hl : ρ[i]? = some (Slot.own l)) (ha : NameIs env s.heap x (.ref a)) (ho : s.heap.get? a = some (listObj vs k)) (hr : Reps W vs l) (hv : Rep W v p)
    (hs : Heap.SameBut a s.heap h') (ho' : h'.get? a = some (listObj (vs ++ [v]) k')) : Frm X b Wb env lay (ρ.set i (.own (l ++ [p]))) W { s with heap := h', toks := tk } := by
  obtain ⟨f, hf, hf'⟩ := F.own
  obtain ⟨h1, h2⟩ := hf i x l hx hl
  have hfa : f i = a := Value.ref.inj (h1.same ha)
  obtain ⟨m, hm⟩ := F.ns
  have nmK : ∀ (y : Str) (u : Value), NameIs env s.heap y u → NameIs env h' y u := fun y u hu => by
    rcases hu with ⟨e, m', hm', hv'⟩ | ⟨e, c, hc, hv'⟩
    · exact .inl ⟨e, m', hm'.sameBut hs (Ns_ne_list hm' ho).symm, hv'⟩
    · exact .inr ⟨e, c, hc, hv'.sameBut hs (cell_ne_list hv' ho).symm⟩
  have hW : W a = none := hfa ▸ h2.fz
  have hb : b.heap.get? a = none := hfa ▸ h2.new
  refine ⟨⟨(F.turn (tk := tk) hs hb hW).good, F.e.base, F.e.kind, F.e.glob, F.e.blt, F.e.names, F.e.cellsAt, fun j y q hy hq => ?_⟩, F.turn hs hb hW, ⟨m, hm.sameBut hs (Ns_ne_list hm ho).symm⟩, F.lnew, F.lfz, fun j y hj hy => ?_, F.apart, F.nodup, ?_⟩
  · rcases slot_set hq with ⟨rfl, e⟩ | ⟨hj, hq⟩
    · cases e
    · obtain ⟨u, hu, hr'⟩ := F.e.slot j y q hy hq
      exact ⟨u, nmK y u hu, hr'⟩
  · rcases F.kinds j y hj hy with h | ⟨h, c, u, q1, q2, q3, q4⟩
    · exact .inl h
    · exact .inr ⟨h, c, u, q1, q2.sameBut hs (cell_ne_list q2 ho).symm, q3, q4⟩
  · refine ⟨f, fun j y l' hy hl' => ?_, fun j j' y z l1 l2 hy hz q1 q2 he => ?_⟩
    · rcases slot_set hl' with ⟨rfl, e⟩ | ⟨hj, hl'⟩
      · rw [hx] at hy; cases hy
        cases e
        refine ⟨nmK x _ h1, ⟨⟨vs ++ [v], k', hfa ▸ ho', hr.append (.cons hv .nil)⟩, h2.fz, h2.new⟩⟩
      · obtain ⟨q1, q2⟩ := hf j y l' hy hl'
        obtain ⟨us, ku, hou, hru⟩ := q2.obj
        refine ⟨nmK y _ q1, ⟨⟨us, ku, ?_, hru⟩, q2.fz, q2.new⟩⟩
        have : f j ≠ a := fun q => hj (hf' j i y x l' l hy hx hl' hl (q.trans hfa.symm))
        exact (hs.2 _ this).trans hou
    · have g1 : ∃ l, ρ[j]? = some (Slot.own l) := by
        rcases slot_set q1 with ⟨rfl, _⟩ | ⟨_, q⟩
        · exact ⟨_, hl⟩
        · exact ⟨_, q⟩
      have g2 : ∃ l, ρ[j']? = some (Slot.own l) := by
        rcases slot_set q2 with ⟨rfl, _⟩ | ⟨_, q⟩
        · exact ⟨_, hl⟩
        · exact ⟨_, q⟩
      obtain ⟨_, g1⟩ := g1
      obtain ⟨_, g2⟩ := g2
      exact hf' j j' y z _ _ hy hz g1 g2 he
noncomputable def dApp (i : Nat) (d : Den) : DenS := fun ρ => match ρ[i]? with
  | some (.own l) => match d ρ with
    | some p => match Nat.ble l.length 16777216 with
      | true => some (.next, ρ.set i (.own (l ++ [p])))
      | false => none
    | none => none
  | _ => none
theorem st_app {x : Str} {px apos pos epos : Pos} {e : Expr} {d : Den} (i : Nat) (hx : lay.slots[i]? = some x) (h : EOk X n lay e d) (hs : ∀ env, starEach [e] env = [(false, eval e env)] := by intro _; rfl)
    (hdb : (x == ("__debug__" : Str)) = false := by decide)
    (he : ∀ env, ∃ pl, eval (.Call (.Attribute (.Name x px) "append" apos) [e] [] pos) env = (do
      let ov ← eval (.Name x px) env
      standAt apos.atName
      let (f, first) ← holding [ov] (getMethod ov "append" pl)
      callWith pos f first (backTo pos (starEach [e] env)) []) := by intro env; exact ⟨_, rfl⟩) :
    StOk X n lay (.Expr (.Call (.Attribute (.Name x px) "append" apos) [e] [] pos) epos) (dApp i d) := by
  intro A env b Wb W ρ s f ρ' Q rm F hd hQ
  unfold dApp at hd
  split at hd <;> try (cases hd; done)
  rename_i l hl
  split at hd <;> try (cases hd; done)
  rename_i p hp
  split at hd <;> try (cases hd; done)
  rename_i hle
  cases hd
  obtain ⟨fo, hf, hf'⟩ := F.own
  obtain ⟨h1, h2⟩ := hf i x l hx hl
  obtain ⟨pl, he⟩ := he env
  refine wpAny_Expr (MethodCall_ (wpAny_Name (loadName_is F.e.kind h1 ?_) hdb) he) (by unfold interactive; rw [F.e.kind]; rfl) rfl
  obtain ⟨vs, k, ho, hr⟩ := h2.obj
  refine Calls.getMethod_list_append ho rfl rfl ?_
  refine callWith_method1 (spliced_more (h A env W ρ s p _ rm F.e hp fun v s₁ W₁ r₁ p₁ => ?_) (hs env)) (hs env) rfl
  refine spliced_none ?_
  have ho₁ := r₁.stp.keep _ _ ho
  have hlen : vs.toArray.size ≤ sizeLine := by rw [List.size_toArray, hr.length]; exact Nat.le_of_ble_eq_true hle
  refine wpAny_list_append_plain (items := vs.toArray) ⟨k, ho₁⟩ (fun h' hp' hs' => ?_) hlen
  obtain ⟨k', ho'⟩ := hp'
  have F₁ := F.step r₁
  exact hQ .next _ W₁ r₁.le (F₁.app hx hl (h1.keeps r₁.stp.keep) ho₁ (hr.mono r₁.le) p₁ hs' (by simpa using ho')) (r₁.stp.gk.trans .heap) trivial

/- an owned list is frozen -/
noncomputable def frz (i : Nat) (ρ : List Slot) : List Slot := match ρ[i]? with
  | some (.own l) => ρ.set i (.val (.list l))
  | _ => ρ
theorem Frm.freeze {b : Shared} {Wb : Fz} {env : Env} {ρ : List Slot} {W : Fz} {s : Shared} {i : Nat} {x : Str} (F : Frm X b Wb env lay ρ W s) (hx : lay.slots[i]? = some x) : ∃ W', W.le W' ∧ Frm X b Wb env lay (frz i ρ) W' s := by
  unfold frz
  split
  · rename_i l hl
    obtain ⟨f, hf, hf'⟩ := F.own
    obtain ⟨h1, h2⟩ := hf i x l hx hl
    obtain ⟨vs, k, ho, hr⟩ := h2.obj
    obtain ⟨m, hm⟩ := F.ns
    have le := Fz.le_add (o := listObj vs k) h2.fz
    refine ⟨W.add (f i) (listObj vs k), le, ⟨F.e.good.add ho, F.e.base.trans le, F.e.kind, F.e.glob, F.e.blt, F.e.names, F.e.cellsAt, fun j y q hy hq => ?_⟩, ⟨F.res.le.trans le, F.e.good.add ho, F.res.stp, fun a o q1 q2 => ?_⟩, ⟨m, hm⟩, F.lnew, ?_, fun j y hj hy => ?_, F.apart, F.nodup, ?_⟩
    · rcases slot_set hq with ⟨rfl, e⟩ | ⟨hj, hq⟩
      · rw [hx] at hy; cases hy
        cases e
        exact ⟨_, h1, .list Fz.add_self (hr.mono le)⟩
      · obtain ⟨u, hu, hr'⟩ := F.e.slot j y q hy hq
        exact ⟨u, hu, hr'.mono le⟩
    · by_cases ha : a = f i
      · rw [ha]; exact h2.new
      · rw [Fz.add_ne ha] at q1; exact F.res.news a o q1 q2
    · rw [Fz.add_ne (Ns_ne_list hm ho).symm]; exact F.lfz
    · rcases F.kinds j y hj hy with h | ⟨h, c, u, q1, q2, q3, q4⟩
      · exact .inl h
      · exact .inr ⟨h, c, u, q1, q2, q3, by rw [Fz.add_ne (cell_ne_list q2 ho).symm]; exact q4⟩
    · have g : ∀ j l', (ρ.set i (Slot.val (PV.list l)))[j]? = some (Slot.own l') → j ≠ i ∧ ρ[j]? = some (Slot.own l') := fun j l' q => by
        rcases slot_set q with ⟨_, e⟩ | h
        · cases e
        · exact h
      refine ⟨f, fun j y l' hy hl' => ?_, fun j j' y z l1 l2 hy hz q1 q2 he => hf' j j' y z l1 l2 hy hz (g j l1 q1).2 (g j' l2 q2).2 he⟩
      obtain ⟨hj, hl'⟩ := g j l' hl'
      obtain ⟨q1, q2⟩ := hf j y l' hy hl'
      obtain ⟨us, ku, hou, hru⟩ := q2.obj
      refine ⟨q1, ⟨⟨us, ku, hou, hru.mono le⟩, ?_, q2.new⟩⟩
      rw [Fz.add_ne fun q => hj (hf' j i y x l' l hy hx hl' hl q)]; exact q2.fz
  · exact ⟨W, .refl, F⟩
theorem s_freeze {x : Str} {ss : List Stmt} {D : DenS} (i : Nat) (hx : lay.slots[i]? = some x) (h : SOk X n lay ss D) : SOk X n lay ss (fun ρ => D (frz i ρ)) := by
  intro A env b Wb W ρ s f ρ' Q rm F hd hQ
  obtain ⟨W', le, F'⟩ := F.freeze hx
  exact h A env b Wb W' (frz i ρ) s f ρ' Q rm F' hd fun fl s₂ W₂ le₂ F₂ k₂ hf => hQ fl s₂ W₂ (le.trans le₂) F₂ k₂ hf
theorem st_freeze {x : Str} {st : Stmt} {D : DenS} (i : Nat) (hx : lay.slots[i]? = some x) (h : StOk X n lay st D) : StOk X n lay st (fun ρ => D (frz i ρ)) := by
  intro A env b Wb W ρ s f ρ' Q rm F hd hQ
  obtain ⟨W', le, F'⟩ := F.freeze hx
  exact h A env b Wb W' (frz i ρ) s f ρ' Q rm F' hd fun fl s₂ W₂ le₂ F₂ k₂ hf => hQ fl s₂ W₂ (le.trans le₂) F₂ k₂ hf

/- several names -/
inductive Tgs (lay : Lay) : List Expr → List Nat → Prop where
  | nil : Tgs lay [] []
  | cons {x : Str} {p : Pos} {es : List Expr} {i : Nat} {is : List Nat} : i < lay.wr → lay.slots[i]? = some x → Tgs lay es is → Tgs lay (.Name x p :: es) (i :: is)
theorem Tgs.length {es : List Expr} {is : List Nat} (t : Tgs lay es is) : es.length = is.length := by
  induction t with
  | nil => rfl
  | cons _ _ _ ih => simp [ih]
theorem Tgs.each {env : Env} {es : List Expr} {is : List Nat} (t : Tgs lay es is) : (assignEach es env).length = is.length ∧ (assignEach es env).findIdx? (·.1) = none := by
  induction t with
  | nil => exact ⟨rfl, rfl⟩
  | @cons x p es i is _ _ _ ih =>
    have : assignEach (.Name x p :: es) env = (false, assign (.Name x p) env) :: assignEach es env := rfl
    rw [this]
    refine ⟨by simp [ih.1], ?_⟩
    rw [List.findIdx?_cons, ih.2]; rfl
noncomputable def setAll : List Slot → List Nat → List PV → List Slot
  | ρ, i :: is, p :: ps => setAll (ρ.set i (.val p)) is ps
  | ρ, _, _ => ρ
theorem Frm.putAll {A : Around} {b : Shared} {Wb : Fz} {env : Env} {W : Fz} {es : List Expr} {is : List Nat} (t : Tgs lay es is) : ∀ {ρ : List Slot} {s : Shared} {vs : List Value} {ps : List PV} {Q : Unit → Shared → Prop}, Frm X b Wb env lay ρ W s → Reps W vs ps → ps.length = is.length →
    (∀ s', Frm X b Wb env lay (setAll ρ is ps) W s' → GK s s' → KpE env s s' → Q () s') → wpAny (model X.prog X.w) A (assignInOrder ((assignEach es env).map (·.2)) vs) Q NoE s := by
  induction t with
  | nil =>
    intro ρ s vs ps Q F r hl h
    cases r with
    | cons => simp at hl
    | nil => exact wpAny_pure (h s F .refl .refl)
  | @cons x p es i is hi hx t ih =>
    intro ρ s vs ps Q F r hl h
    cases r with
    | nil => simp at hl
    | @cons v q vs' ps' rv rs =>
      show wpAny _ _ (assignInOrder (assign (.Name x p) env :: (assignEach es env).map (·.2)) (v :: vs')) _ _ _
      rw [assignInOrder]
      refine wpAny_bind (wpAny_holding (wpAny_assign_Name (F.putK hi hx rv fun s₁ F₁ k₁ e₁ => ?_)))
      exact ih F₁ rs (by simpa using hl) fun s₂ F₂ k₂ e₂ => h s₂ F₂ (k₁.trans k₂) (e₁.trans e₂)
end
end Mine
end

section
open PySem PySem.W PySem.W.X PySem.W.ZRun PyProof.Rows
set_option Elab.async false
set_option autoImplicit false

namespace Mine
section
variable {X : Top0} {n : Nat} {lay : Lay}

/- a list's items drawn -/
theorem draw_list {A : Around} {I l : Addr} {items : Array Value} (hne : l ≠ I) : ∀ (n i : Nat) (s : Shared) (Q : List Value → Shared → Prop), s.heap.IsListIter I l i → s.heap.IsList l items → i + n ≤ items.size →
    (∀ h', h'.IsListIter I l (i + n) → Heap.SameBut I s.heap h' → Q ((items.toList.drop i).take n) { s with heap := h' }) → wpAny (model X.prog X.w) A (draw (.ref I) n) Q NoE s
  | 0, i, s, Q, hit, _, _, hQ => by
    have := hQ s.heap hit (.refl ..)
    simp only [List.take_zero] at this
    exact wpAny_pure this
  | n + 1, i, s, Q, hit, hl, hle, hQ => by
    have hlt : i < items.size := by lia
    unfold draw
    refine wpAny_bind (wpAny_pyNext_list_item hit hl (x := items[i]) (by simp [hlt]) fun h₁ hit₁ hs₁ => ?_)
    refine wpAny_bind (wpAny_holding (draw_list hne n (i + 1) _ _ hit₁ (hl.extBut hs₁.extBut hne) (by lia) fun h₂ hit₂ hs₂ => wpAny_pure ?_))
    have hd : items.toList.drop i = items[i] :: items.toList.drop (i + 1) := by simp [List.drop_eq_getElem_cons, hlt]
    have := hQ h₂ (by rw [show i + (n + 1) = i + 1 + n by lia]; exact hit₂) (hs₁.trans hs₂)
    rw [hd, List.take_succ_cons] at this
    exact this
theorem unpackItems_list {A : Around} {s : Shared} {t : Addr} {items : Array Value} {Q : List Value → Shared → Prop} (hh : A.handled = none) (ht : s.heap.IsList t items)
    (hQ : ∀ h', Heap.ExtBut s.heap.objs.size s.heap h' → Q items.toList { s with heap := h' }) : wpAny (model X.prog X.w) A (unpackItems (.ref t) items.size none) Q NoE s := by
  have hlt : t ≠ s.heap.objs.size := by obtain ⟨o, ho, _⟩ := ht; exact Nat.ne_of_lt (Heap.lt_size ho)
  unfold unpackItems
  refine wpAny_bind ?_
  · unfold notIterableAtAll
    refine wpAny_bind (wpAny_specialOf ht.typeIs F.slot_list_iter.lookup ?_)
    refine wpAny_pure ?_
    simp only [Bool.false_eq_true, if_false]
    refine wpAny_bind (wpAny_holding (wpAny_pyIter_list ht ?_))
    refine wpAny_bind (wpAny_holding (draw_list hlt items.size 0 _ _ ⟨_, Heap.get?_push_size _ rfl, rfl, rfl⟩ (ht.push _) (by lia) fun h₁ hit₁ hs₁ => ?_))
    have hall : List.take items.size (List.drop 0 items.toList) = items.toList := by
      rw [List.drop_zero]; exact List.take_of_length_le (by simp)
    rw [hall]
    rw [if_neg (by simp)]
    have ht₁ : h₁.IsList t items := (ht.push _).extBut hs₁.extBut hlt
    refine wpAny_bind (wpAny_holding (wpAny_pyNext_list_end hh (i := items.size) (by simpa using hit₁) ht₁ (by simp) fun h₂ he₂ => ?_))
    simp only [Option.isSome_none, Bool.false_eq_true, if_false]
    refine wpAny_pure (hQ h₂ fun b o hb e => he₂ b o hb (hs₁.extBut b o hb (Heap.get?_push_of_some _ e)))

/-- the items of a tuple or a list -/
noncomputable def fUn : PV → Option (List PV)
  | .tup l => some l
  | .list l => some l
  | _ => none
theorem ext_res {W : Fz} {s : Shared} {h' : Heap} (g : Good W s.heap) (h : Heap.ExtBut s.heap.objs.size s.heap h') : Res W s W { s with heap := h' } :=
  .heap (t := s.toks) g fun a o e => h a o (Nat.ne_of_lt (Heap.lt_size e)) e
theorem unpack_ok {A : Around} {b : Shared} {Wb : Fz} {env : Env} {W : Fz} {ρ : List Slot} {s : Shared} {es : List Expr} {is : List Nat} {k : Nat} {pos : Pos} {v : Value} {p : PV} {ps : List PV} {Q : Unit → Shared → Prop} (hh : A.handled = none) (t : Tgs lay es is)
    (F : Frm X b Wb env lay ρ W s) (hv : Rep W v p) (hp : fUn p = some ps) (hl : ps.length = is.length) (h : ∀ s', Frm X b Wb env lay (setAll ρ is ps) W s' → GK s s' → KpE env s s' → Q () s') :
    wpAny (model X.prog X.w) A (assign (.Tuple es k pos) env v) Q NoE s := by
  have he := t.each (env := env)
  cases hv <;> simp only [fUn] at hp <;> cases hp
  · rename_i a vs m e rs
    have hL : s.heap.IsList a vs.toArray := ⟨_, F.e.good _ _ e, rfl, _, rfl⟩
    rw [arm_assign_Tuple]
    refine wpAny_bind (wpAny_standAt ?_)
    unfold unpack
    rw [he.1, he.2]
    have hsz : is.length = vs.toArray.size := by rw [List.size_toArray, rs.length, hl]
    rw [hsz]
    refine wpAny_bind (wpAny_holding (unpackItems_list hh hL fun h' hx => ?_))
    have r := ext_res F.e.good hx
    exact (F.step r).putAll t rs hl fun s' F' k' e' => h s' F' (r.stp.gk.trans k') (r.stp.kpE.trans e')
  · rename_i a vs m e rs
    have hL : s.heap.IsTuple a vs.toArray := ⟨_, F.e.good _ _ e, rfl, _, rfl⟩
    refine wpAny_assign_Tuple hh hL (by rw [he.1, List.size_toArray, rs.length, hl]) he.2 fun h' hx => ?_
    have r := ext_res F.e.good hx
    exact (F.step r).putAll t rs hl fun s' F' k' e' => h s' F' (r.stp.gk.trans k') (r.stp.kpE.trans e')
noncomputable def dUn (is : List Nat) (d : Den) : DenS := fun ρ => match d ρ with
  | some p => match fUn p with
    | some ps => match Nat.beq ps.length is.length with
      | true => some (.next, setAll ρ is ps)
      | false => none
    | none => none
  | none => none
theorem st_unpack {es : List Expr} {is : List Nat} {k : Nat} {tpos pos : Pos} {e : Expr} {d : Den} (t : Tgs lay es is) (h : EOk X n lay e d)
    (hs : ∀ env, swapsWithSole [.Tuple es k tpos] e pos.line env = pure false := by intro _; rfl) (hw : ∀ env, swappedStores [.Tuple es k tpos] e env = pure none := by intro _; rfl) : StOk X n lay (.Assign [.Tuple es k tpos] e pos) (dUn is d) := by
  intro A env b Wb W ρ s f ρ' Q rm F hd hQ
  unfold dUn at hd
  split at hd <;> try (cases hd; done)
  rename_i p hp
  split at hd <;> try (cases hd; done)
  rename_i ps hps
  split at hd <;> try (cases hd; done)
  rename_i hl
  cases hd
  refine Assign_Tuple (h A env W ρ s p _ rm F.e hp fun v s₁ W₁ r₁ p₁ => ?_) (hs env) (hw env)
  exact unpack_ok rm.handled t (F.step r₁) p₁ hps (Nat.eq_of_beq_eq_true hl) fun s₂ F₂ k₂ _ => hQ .next s₂ W₁ r₁.le F₂ (r₁.stp.gk.trans k₂) trivial

/- a def called -/
theorem cellsFrom_acc : ∀ (names : List (Str × NameKind)) (k : Nat) (acc : List (Str × Addr)) (x : Str), (acc.lookup x).isSome = true → ((cellsFrom k names acc).lookup x).isSome = true
  | [], _, _, _, h => h
  | (name, kind) :: r, k, acc, x, h => by
    unfold cellsFrom
    split
    · refine cellsFrom_acc r _ _ x ?_
      rw [List.lookup_cons]
      split
      · rfl
      · exact h
    · exact cellsFrom_acc r _ _ x h
theorem cellsFrom_some : ∀ (names : List (Str × NameKind)) (k : Nat) (acc : List (Str × Addr)) (x : Str), names.lookup x = some .cell → ((cellsFrom k names acc).lookup x).isSome = true
  | [], _, _, _, h => by cases h
  | (name, kind) :: r, k, acc, x, h => by
    rw [List.lookup_cons] at h
    unfold cellsFrom
    cases hb : x == name with
    | true =>
      rw [hb] at h
      cases h
      refine cellsFrom_acc r _ _ x ?_
      rw [List.lookup_cons, hb]; rfl
    | false =>
      rw [hb] at h
      split
      · exact cellsFrom_some r _ _ x h
      · exact cellsFrom_some r _ _ x h
theorem bindL_out (kf : Str → Option NameKind) : ∀ (xs : List Str) (vs : List Value) (m : Str → Option Value) (x : Str), x ∉ xs → bindL kf (xs.zip vs) m x = m x
  | [], _, _, _, _ => rfl
  | _ :: _, [], _, _, _ => rfl
  | y :: xs, v :: vs, m, x, h => by
    have h1 : x ≠ y := fun q => h (q ▸ List.mem_cons_self ..)
    show bindL kf (xs.zip vs) (if kf y = some .local then fun z => if z = y then some v else m z else m) x = m x
    rw [bindL_out kf xs vs _ x fun q => h (List.mem_cons_of_mem _ q)]
    split
    · simp [h1]
    · rfl
theorem bindC_out (kf : Str → Option NameKind) : ∀ (xs : List Str) (vs : List Value) (m : Str → Option Value) (x : Str), x ∉ xs → bindC kf (xs.zip vs) m x = m x
  | [], _, _, _, _ => rfl
  | _ :: _, [], _, _, _ => rfl
  | y :: xs, v :: vs, m, x, h => by
    have h1 : x ≠ y := fun q => h (q ▸ List.mem_cons_self ..)
    show bindC kf (xs.zip vs) (if kf y = some .local then m else fun z => if z = y then some v else m z) x = m x
    rw [bindC_out kf xs vs _ x fun q => h (List.mem_cons_of_mem _ q)]
    split
    · rfl
    · simp [h1]
theorem bindL_in (kf : Str → Option NameKind) : ∀ (xs : List Str) (vs : List Value) (m : Str → Option Value) (i : Nat) (x : Str) (v : Value), xs.Nodup → xs[i]? = some x → vs[i]? = some v → kf x = some .local → bindL kf (xs.zip vs) m x = some v
  | [], _, _, _, _, _, _, h, _, _ => by simp at h
  | _ :: _, [], _, _, _, _, _, _, h, _ => by simp at h
  | y :: xs, u :: vs, m, 0, x, v, hn, hx, hv, hk => by
    simp at hx hv; subst hx; subst hv
    show bindL kf (xs.zip vs) (if kf y = some .local then fun z => if z = y then some u else m z else m) y = some u
    rw [bindL_out kf xs vs _ y (List.nodup_cons.mp hn).1, if_pos hk]; simp
  | y :: xs, u :: vs, m, i + 1, x, v, hn, hx, hv, hk => bindL_in kf xs vs _ i x v (List.nodup_cons.mp hn).2 (by simpa using hx) (by simpa using hv) hk
theorem bindC_in (kf : Str → Option NameKind) : ∀ (xs : List Str) (vs : List Value) (m : Str → Option Value) (i : Nat) (x : Str) (v : Value), xs.Nodup → xs[i]? = some x → vs[i]? = some v → kf x = some .cell → bindC kf (xs.zip vs) m x = some v
  | [], _, _, _, _, _, _, h, _, _ => by simp at h
  | _ :: _, [], _, _, _, _, _, _, h, _ => by simp at h
  | y :: xs, u :: vs, m, 0, x, v, hn, hx, hv, hk => by
    simp at hx hv; subst hx; subst hv
    show bindC kf (xs.zip vs) (if kf y = some .local then m else fun z => if z = y then some u else m z) y = some u
    rw [bindC_out kf xs vs _ y (List.nodup_cons.mp hn).1, if_neg (by rw [hk]; decide)]; simp
  | y :: xs, u :: vs, m, i + 1, x, v, hn, hx, hv, hk => bindC_in kf xs vs _ i x v (List.nodup_cons.mp hn).2 (by simpa using hx) (by simpa using hv) hk

/-- the layout of a def -/
structure DefLay (lay : Lay) (xs : List Str) (scope : Scope) : Prop where
  names : lay.names = scope.names
  slots : lay.slots.take xs.length = xs
  wr : lay.wr = lay.slots.length
  kinds : ∀ x ∈ lay.slots, scope.names.lookup x = some .local ∨ scope.names.lookup x = some .cell
  nodup : lay.slots.Nodup
noncomputable def start (k : Nat) (ps : List PV) : List Slot := ps.map .val ++ List.replicate k .unset
theorem Reps.drop_none {W : Fz} {vs : List Value} {ps : List PV} (r : Reps W vs ps) {i : Nat} {p : PV} (h : ps[i]? = some p) : ∃ v, vs[i]? = some v ∧ Rep W v p := r.get h

noncomputable def callDef (k arity : Nat) (D : DenS) (ps : List PV) : Option PV := match Nat.beq ps.length arity with
  | true => match D (start k ps) with
    | some (.ret p, _) => some p
    | some (.next, _) => some .none
    | _ => none
  | false => none
theorem frame_start {b : Shared} {W : Fz} {name : Str} {scope : Scope} {fa : Addr} {cd : Value} {xs : List Str} {vs : List Value} {ps : List PV} {h₁ : Heap} {tk k : Nat} (L : DefLay lay xs scope) (hk : scope.kind = .function) (hbase : X.W₀.le W) (g : Good W b.heap) (rs : Reps W vs ps) (hlen : ps.length = xs.length)
    (Fr' : Fr b.heap b.heap.objs.size h₁ (bindL (envOfC name scope b.heap.objs.size fa cd).kindOf (xs.zip vs) fun _ => none))
    (Cl' : Cl b.heap.objs.size (cellsFrom (b.heap.objs.size + 1) scope.names []) h₁ (bindC (envOfC name scope b.heap.objs.size fa cd).kindOf (xs.zip vs) fun _ => none)) :
    Frm X b W (envOfC name scope b.heap.objs.size fa cd) lay (start k ps) W { b with heap := h₁, toks := tk } := by
  have fresh : ∀ a, b.heap.objs.size ≤ a → b.heap.get? a = none := fun a ha => by
    cases e : b.heap.get? a with
    | none => rfl
    | some o => exact absurd (Heap.lt_size e) (Nat.not_lt.mpr ha)
  have freshW : ∀ a, b.heap.objs.size ≤ a → W a = none := fun a ha => by
    cases e : W a with
    | none => rfl
    | some o => have := g a o e; rw [fresh a ha] at this; cases this
  have hkf : ∀ x, (envOfC name scope b.heap.objs.size fa cd).kindOf x = scope.names.lookup x := fun _ => rfl
  have hnd : xs.Nodup := by
    have := L.nodup
    rw [← List.take_append_drop xs.length lay.slots, L.slots] at this
    exact (List.nodup_append.mp this).1
  have hpar : ∀ (i : Nat) (x : Str), i < xs.length → lay.slots[i]? = some x → xs[i]? = some x := fun i x hi hx => by
    rw [← L.slots, List.getElem?_take, if_pos hi]; exact hx
  have hstart : ∀ (i : Nat) (q : Slot), (start k ps)[i]? = some q → (∃ p, q = .val p ∧ ps[i]? = some p ∧ i < xs.length) ∨ q = .unset := fun i q h => by
    unfold start at h
    by_cases hi : i < ps.length
    · rw [List.getElem?_append_left (by simpa using hi), List.getElem?_map] at h
      cases e : ps[i]? with
      | none => rw [e] at h; cases h
      | some p => rw [e] at h; cases h; exact .inl ⟨p, rfl, rfl, hlen ▸ hi⟩
    · rw [List.getElem?_append_right (by simpa using hi)] at h
      obtain ⟨_, h⟩ := List.getElem?_eq_some_iff.mp h
      simp at h
      exact .inr h.symm
  have hnm : ∀ (i : Nat) (x : Str) (v : Value), i < xs.length → lay.slots[i]? = some x → vs[i]? = some v → NameIs (envOfC name scope b.heap.objs.size fa cd) h₁ x v := fun i x v hi hx hv => by
    have hx' := hpar i x hi hx
    rcases L.kinds x (List.mem_of_getElem? hx) with hl | hc
    · exact .inl ⟨hl, _, Fr'.ns, bindL_in _ xs vs _ i x v hnd hx' hv hl⟩
    · obtain ⟨c, hc'⟩ := Option.isSome_iff_exists.mp (cellsFrom_some scope.names (b.heap.objs.size + 1) [] x hc)
      refine .inr ⟨hc, c, hc', ?_⟩
      have := Cl'.cell x c hc'
      rw [bindC_in _ xs vs _ i x v hnd hx' hv hc] at this
      exact this
  refine ⟨⟨fun a o e => Fr'.keep a o (g a o e), hbase, hk, rfl, rfl, L.names.symm, (fun x hx => Option.isSome_iff_exists.mp (cellsFrom_some scope.names (b.heap.objs.size + 1) [] x (L.names ▸ hx))), fun i x p hx hp => ?_⟩, ⟨.refl, fun a o e => Fr'.keep a o (g a o e), .heap Fr'.keep, fun a o h h' => by rw [h'] at h; cases h⟩, ⟨_, Fr'.ns⟩, fresh _ (Nat.le_refl _), freshW _ (Nat.le_refl _), fun i x hi hx => ?_, fun i x y c _ _ _ hx hy => ?_, fun i j x hi hj => ?_, ?_⟩
  · rcases hstart i _ hp with ⟨p', e, hp', hi⟩ | e
    · cases e
      obtain ⟨v, hv, rv⟩ := rs.get hp'
      exact ⟨v, hnm i x v hi hx hv, rv⟩
    · cases e
  · rcases L.kinds x (List.mem_of_getElem? hx) with hl | hc
    · exact .inl hl
    · obtain ⟨c, hc'⟩ := Option.isSome_iff_exists.mp (cellsFrom_some scope.names (b.heap.objs.size + 1) [] x hc)
      have habove : b.heap.objs.size < c := Cl'.above x c (mem_of_lookup hc')
      exact .inr ⟨hc, c, _, hc', Cl'.cell x c hc', fresh c (Nat.le_of_lt habove), freshW c (Nat.le_of_lt habove)⟩
  · exact name_of_addr Cl'.apart (mem_of_lookup hy) (mem_of_lookup hx)
  · have h1 := (List.getElem?_eq_some_iff.mp hi)
    have h2 := (List.getElem?_eq_some_iff.mp hj)
    obtain ⟨a1, b1⟩ := h1
    obtain ⟨a2, b2⟩ := h2
    have hp := List.pairwise_iff_getElem.mp L.nodup
    rcases Nat.lt_trichotomy i j with q | q | q
    · exact absurd (b1.trans b2.symm) (hp i j a1 a2 q)
    · exact q
    · exact absurd (b2.trans b1.symm) (hp j i a2 a1 q)
  · refine ⟨fun _ => 0, fun i x l hx hl => ?_, fun i j x y l l' hx hy hl => ?_⟩
    · rcases hstart i _ hl with ⟨p', e, _⟩ | e <;> cases e
    · rcases hstart i _ hl with ⟨p', e, _⟩ | e <;> cases e
theorem elim0 {P : List Value → Prop} (h : P []) (vs : List Value) (e : vs.length = 0) : P vs := by
  cases vs
  · exact h
  · exact absurd e (Nat.succ_ne_zero _)
theorem elimS {P : List Value → Prop} {k : Nat} (h : ∀ a (vs : List Value), vs.length = k → P (a :: vs)) (vs : List Value) (e : vs.length = k + 1) : P vs := by
  cases vs
  · exact absurd e.symm (Nat.succ_ne_zero _)
  · exact h _ _ (Nat.succ.inj e)
theorem elim1 {P : List Value → Prop} (h : ∀ a, P [a]) : ∀ vs : List Value, vs.length = 1 → P vs := elimS fun a => elim0 (P := fun l => P (a :: l)) (h a)
theorem elim2 {P : List Value → Prop} (h : ∀ a b, P [a, b]) : ∀ vs : List Value, vs.length = 2 → P vs := elimS fun a => elim1 (P := fun l => P (a :: l)) (h a)
theorem elim3 {P : List Value → Prop} (h : ∀ a b c, P [a, b, c]) : ∀ vs : List Value, vs.length = 3 → P vs := elimS fun a => elim2 (P := fun l => P (a :: l)) (h a)
theorem elim4 {P : List Value → Prop} (h : ∀ a b c d, P [a, b, c, d]) : ∀ vs : List Value, vs.length = 4 → P vs := elimS fun a => elim3 (P := fun l => P (a :: l)) (h a)
theorem call_ok {fa : Addr} {o : Obj} {name : Str} {params : Arguments} {body : List Stmt} {scope : Scope} {pm cd doc : Value} {xs : List Str} {D : DenS} (k : Nat)
    (ho : X.W₀ fa = some o) (hdata : o.data = .func (Calls.docDef name params body scope pm cd doc)) (hcd : ∀ h, Good X.W₀ h → h.CodeRec cd name)
    (L : DefLay lay xs scope) (hs : SOk X n lay body D)
    (hbind : ∀ vs : List Value, vs.length = xs.length → bindArgs (Calls.docDef name params body scope pm cd doc) ⟨vs, []⟩ = pure (xs.zip vs))
    (hco : scope.isCoroutine = false := by rfl) (hgen : scope.isGenerator = false := by rfl) (hk : scope.kind = .function := by rfl) : CallOk X (n + 1) (.ref fa) (callDef k xs.length D) := by
  intro A W s vs ps r Q rm hb g rs hf hQ
  unfold callDef at hf
  split at hf <;> try (cases hf; done)
  rename_i hlen
  have hlen := Nat.eq_of_beq_eq_true hlen
  have g0 : Good X.W₀ s.heap := fun a o e => g a o (hb a o e)
  have hvl : vs.length = xs.length := rs.length.trans hlen
  refine wpAny_call ?_
  refine call_cells_ret (by have := rm.depth; unfold recursionLimit; lia) (g0 _ _ ho) hdata (X.lim _ g0) (hcd _ g0) (hbind vs hvl) ?_ ?_ hco hgen hk
  · intro x hx
    have hmem : x.1 ∈ lay.slots := by
      have h1 := (List.of_mem_zip hx).1
      have h2 := L.slots
      rw [← h2] at h1
      exact List.mem_of_mem_take h1
    rcases L.kinds x.1 hmem with hl | hc
    · exact .inl hl
    · exact .inr ⟨hc, cellsFrom_some _ _ _ _ hc⟩
  · intro h₁ tk F₁ C₁
    have F := frame_start (X := X) (lay := lay) (tk := tk) (k := k) L hk hb g rs hlen F₁ C₁
    have rm' : Room (A.deeper (envOfC name scope s.heap.objs.size fa cd)) n := ⟨rm.handled, by show A.depth + 1 + n < 900; have := rm.depth; lia, by show A.units + 3 + 20 * n < 9000; have := rm.units; lia⟩
    split at hf
    · rename_i p ρ' hD
      cases hf
      refine hs _ _ s W W _ _ _ ρ' _ rm' F hD fun fl s' W' le F' kk hfl => ?_
      cases fl <;> simp only [FlowIs] at hfl
      exact hQ _ s' W' F'.res hfl
    · rename_i ρ' hD
      cases hf
      refine hs _ _ s W W _ _ _ ρ' _ rm' F hD fun fl s' W' le F' kk hfl => ?_
      cases fl <;> simp only [FlowIs] at hfl
      exact hQ _ s' W' F'.res .none
    · cases hf
end
end Mine
end

section
open PySem PySem.W PySem.W.X PySem.W.ZRun PyProof.Rows
set_option Elab.async false
set_option autoImplicit false

namespace Mine

/-- kept but for the iterator's own objects and generators -/
structure Kp (wr : List Addr) (gs : List Nat) (s s' : Shared) : Prop where
  keep : ∀ a o, a ∉ wr → s.heap.get? a = some o → s'.heap.get? a = some o
  os : s'.os = s.os
  gens : ∀ (g : Nat) (x : GenState), g ∉ gs → s.gens[g]? = some x → s'.gens[g]? = some x
  bare : AllBare s.gens → AllBare s'.gens
noncomputable def NoRep (o : Obj) : Prop := (∀ vs k, o.data ≠ .seq vs k) ∧ ∀ D, ¬ IntDict o D
noncomputable def Free (o : Obj) : Prop := (∀ v, o.data ≠ .cell v) ∧ NoRep o
structure Sep (b : Shared) (env : Env) (W : Fz) (h : Heap) (wr : List Addr) (gs : List Nat) : Prop where
  env : env.locals ∉ wr
  old : ∀ a ∈ wr, b.heap.get? a = none
  fz : ∀ a ∈ wr, W a = none
  obj : ∀ a ∈ wr, ∃ o, h.get? a = some o ∧ Free o
  gs : ∀ g ∈ gs, b.gens[g]? = none

/-- what an iterator yields, item by item -/
structure Feed (X : Top0) (A : Around) (tg : Expr) (it : Value) (wr : List Addr) (gs : List Nat) (St : List PV → Fz → Shared → Prop) : Prop where
  frame : ∀ l W W' s s', St l W s → Good W s.heap → W.le W' → (∀ a ∈ wr, ∀ o, s.heap.get? a = some o → s'.heap.get? a = some o) → (∀ g ∈ gs, ∀ x, s.gens[g]? = some x → s'.gens[g]? = some x) → Good W' s'.heap → St l W' s'
  item : ∀ (W : Fz) (s : Shared) (p : PV) (l : List PV) (Q : Value → Shared → Prop), Room A 0 → X.W₀.le W → Good W s.heap → St (p :: l) W s → (∀ a ∈ wr, W a = none) →
    (∀ v s' W', W.le W' → Good W' s'.heap → (∀ a o, W' a = some o → W a = none → s.heap.get? a = none) → Kp wr gs s s' → Rep W' v p → St l W' s' → (∀ a ∈ wr, ∃ o, s'.heap.get? a = some o ∧ Free o) → Q v s') →
    wpAny (model X.prog X.w) A (pyNext it) (fun r s₁ => match r with
      | none => False
      | some v => wpAny (model X.prog X.w) A (letOwnedTupleGo tg it v) (fun _ s₂ => Q v s₂) NoE s₁) NoE s
  done : ∀ (W : Fz) (s : Shared) (Q : Shared → Prop), Room A 0 → X.W₀.le W → Good W s.heap → St [] W s → (∀ a ∈ wr, W a = none) → (∀ s', Good W s'.heap → Kp wr gs s s' → Q s') →
    wpAny (model X.prog X.w) A (pyNext it) (fun r s₁ => r = none ∧ Q s₁) NoE s
  self : ∀ (W : Fz) (s : Shared) (l : List PV) (Q : Value → Shared → Prop), Room A 0 → X.W₀.le W → Good W s.heap → St l W s → Q it s → wpAny (model X.prog X.w) A (pyIter it) Q NoE s

section
variable {X : Top0} {n : Nat} {lay : Lay}

theorem Frm.changeG {b : Shared} {Wb : Fz} {env : Env} {ρ : List Slot} {W W' : Fz} {s s' : Shared} {wr : List Addr} {gs : List Nat} (F : Frm X b Wb env lay ρ W s) (S : Sep b env W s.heap wr gs) (le : W.le W') (g : Good W' s'.heap)
    (news : ∀ a o, W' a = some o → W a = none → s.heap.get? a = none ∨ a ∈ wr) (k : Kp wr gs s s') : Frm X b Wb env lay ρ W' s' := by
  obtain ⟨m, hm⟩ := F.ns
  have hcell : ∀ c v, s.heap.IsCell c v → c ∉ wr := fun c v hc hw => by
    obtain ⟨o, ho, hf⟩ := S.obj c hw
    obtain ⟨o', ho', hd'⟩ := hc
    rw [ho] at ho'; cases ho'
    exact hf.1 v hd'
  have cellK : ∀ c v, s.heap.IsCell c v → s'.heap.IsCell c v := fun c v hc => by
    have := hcell c v hc
    obtain ⟨o', ho', hd'⟩ := hc
    exact ⟨o', k.keep c o' this ho', hd'⟩
  have nsK : ∀ m, s.heap.Ns env.locals m → s'.heap.Ns env.locals m := fun m hm => hm.at' fun o e => k.keep _ o S.env e
  have nmK : ∀ (y : Str) (u : Value), NameIs env s.heap y u → NameIs env s'.heap y u := fun y u hu => by
    rcases hu with ⟨e, m', hm', hv'⟩ | ⟨e, c, hc, hv'⟩
    · exact .inl ⟨e, m', nsK m' hm', hv'⟩
    · exact .inr ⟨e, c, hc, cellK c _ hv'⟩
  have stays : ∀ a o, a ∉ wr → W a = none → s.heap.get? a = some o → W' a = none := fun a o hn h h' => by
    cases e : W' a with
    | none => rfl
    | some o' =>
      rcases news a o' e h with q | q
      · rw [q] at h'; cases h'
      · exact absurd q hn
  refine ⟨⟨g, F.e.base.trans le, F.e.kind, F.e.glob, F.e.blt, F.e.names, F.e.cellsAt, fun i x p hx hp => ?_⟩, ⟨F.res.le.trans le, g, ⟨fun a o e => ?_, k.os.trans F.res.stp.os, fun gi x e => ?_, fun q => k.bare (F.res.stp.bare q)⟩, fun a o q1 q2 => ?_⟩, ⟨m, nsK m hm⟩, F.lnew, ?_, fun i x hi hx => ?_, F.apart, F.nodup, ?_⟩
  · obtain ⟨v, hv, hr⟩ := F.e.slot i x p hx hp
    exact ⟨v, nmK x v hv, hr.mono le⟩
  · refine k.keep a o (fun hw => ?_) (F.res.stp.keep a o e)
    rw [S.old a hw] at e; cases e
  · refine k.gens gi x (fun hw => ?_) (F.res.stp.gens gi x e)
    rw [S.gs gi hw] at e; cases e
  · cases q3 : W a with
    | some o' => exact F.res.news a o' q3 q2
    | none =>
      rcases news a o q1 q3 with h1 | h1
      · cases q : b.heap.get? a with
        | none => rfl
        | some o' => rw [F.res.stp.keep a o' q] at h1; cases h1
      · exact S.old a h1
  · obtain ⟨o, es, ep, ho, _⟩ := hm
    exact stays _ o S.env F.lfz ho
  · rcases F.kinds i x hi hx with h | ⟨h, c, u, q1, q2, q3, q4⟩
    · exact .inl h
    · obtain ⟨o, ho, hd⟩ := id q2
      exact .inr ⟨h, c, u, q1, cellK c u q2, q3, stays c o (hcell c u q2) q4 ho⟩
  · obtain ⟨f, hf, hf'⟩ := F.own
    refine ⟨f, fun i x l hx hl => ?_, hf'⟩
    obtain ⟨q1, q2⟩ := hf i x l hx hl
    obtain ⟨vs, j, ho, hr⟩ := q2.obj
    have hnw : f i ∉ wr := fun hw => by
      obtain ⟨o, ho', hf⟩ := S.obj _ hw
      rw [ho] at ho'; cases ho'
      exact hf.2.1 _ _ rfl
    exact ⟨nmK x _ q1, ⟨⟨vs, j, k.keep _ _ hnw ho, hr.mono le⟩, stays _ _ hnw q2.fz ho, q2.new⟩⟩

theorem Frm.change {b : Shared} {Wb : Fz} {env : Env} {ρ : List Slot} {W W' : Fz} {s s' : Shared} {wr : List Addr} {gs : List Nat} (F : Frm X b Wb env lay ρ W s) (S : Sep b env W s.heap wr gs) (le : W.le W') (g : Good W' s'.heap)
    (news : ∀ a o, W' a = some o → W a = none → s.heap.get? a = none) (k : Kp wr gs s s') : Frm X b Wb env lay ρ W' s' := F.changeG S le g (fun a o h h' => .inl (news a o h h')) k

/- the iterator's objects locked while a turn runs -/
noncomputable def Fz.lock (W : Fz) (wr : List Addr) (h : Heap) : Fz := fun a => if a ∈ wr then h.get? a else W a
noncomputable def Fz.drop (W : Fz) (wr : List Addr) : Fz := fun a => if a ∈ wr then none else W a
theorem Fz.le_lock {W : Fz} {wr : List Addr} {h : Heap} (hf : ∀ a ∈ wr, W a = none) : W.le (W.lock wr h) := fun a o e => by
  have : a ∉ wr := fun hw => by rw [hf a hw] at e; cases e
  simp [Fz.lock, this, e]
theorem Fz.le_drop {W W' : Fz} {wr : List Addr} (hf : ∀ a ∈ wr, W a = none) (le : W.le W') : W.le (W'.drop wr) := fun a o e => by
  have : a ∉ wr := fun hw => by rw [hf a hw] at e; cases e
  simp [Fz.drop, this, le a o e]
theorem Rep.drop {W : Fz} {wr : List Addr} (hf : ∀ a ∈ wr, ∀ o, W a = some o → NoRep o) {v : Value} {p : PV} (r : Rep W v p) : Rep (W.drop wr) v p := by
  refine Rep.rec (motive_1 := fun v p _ => Rep (W.drop wr) v p) (motive_2 := fun vs ps _ => Reps (W.drop wr) vs ps) .none .bool .int .flt .str ?_ ?_ ?_ .nil ?_ r
  · intro a o D e h1 h2
    have : a ∉ wr := fun hw => (hf a hw _ e).2 D h2
    exact .dict (by simp [Fz.drop, this, e]) h1 h2
  · intro a vs n ps e _ ih
    have : a ∉ wr := fun hw => (hf a hw _ e).1 _ _ rfl
    exact .list (by simp [Fz.drop, this, e]; rfl) ih
  · intro a vs n ps e _ ih
    have : a ∉ wr := fun hw => (hf a hw _ e).1 _ _ rfl
    exact .tup (by simp [Fz.drop, this, e]; rfl) ih
  · intro v p vs ps _ _ ih1 ih2; exact .cons ih1 ih2
theorem Reps.drop {W : Fz} {wr : List Addr} (hf : ∀ a ∈ wr, ∀ o, W a = some o → NoRep o) {vs : List Value} {ps : List PV} (r : Reps W vs ps) : Reps (W.drop wr) vs ps := r.ind .nil fun _ _ _ _ r _ ih => .cons (r.drop hf) ih

theorem Frm.lock {b : Shared} {Wb : Fz} {env : Env} {ρ : List Slot} {W : Fz} {s : Shared} {wr : List Addr} {gs : List Nat} (F : Frm X b Wb env lay ρ W s) (S : Sep b env W s.heap wr gs) : Frm X b Wb env lay ρ (W.lock wr s.heap) s := by
  have le : W.le (W.lock wr s.heap) := Fz.le_lock S.fz
  have g : Good (W.lock wr s.heap) s.heap := fun a o e => by
    by_cases hw : a ∈ wr
    · simpa [Fz.lock, hw] using e
    · exact F.e.good a o (by simpa [Fz.lock, hw] using e)
  have stays : ∀ a, a ∉ wr → W a = none → (W.lock wr s.heap) a = none := fun a h h' => by simp [Fz.lock, h, h']
  refine ⟨⟨g, F.e.base.trans le, F.e.kind, F.e.glob, F.e.blt, F.e.names, F.e.cellsAt, fun i x p hx hp => ?_⟩, ⟨F.res.le.trans le, g, F.res.stp, fun a o q1 q2 => ?_⟩, F.ns, F.lnew, stays _ S.env F.lfz, fun i x hi hx => ?_, F.apart, F.nodup, ?_⟩
  · obtain ⟨v, hv, hr⟩ := F.e.slot i x p hx hp
    exact ⟨v, hv, hr.mono le⟩
  · by_cases hw : a ∈ wr
    · exact S.old a hw
    · exact F.res.news a o (by simpa [Fz.lock, hw] using q1) q2
  · rcases F.kinds i x hi hx with h | ⟨h, c, u, q1, q2, q3, q4⟩
    · exact .inl h
    · refine .inr ⟨h, c, u, q1, q2, q3, stays c (fun hw => ?_) q4⟩
      obtain ⟨o, ho, hf⟩ := S.obj c hw
      obtain ⟨o', ho', hd'⟩ := q2
      rw [ho] at ho'; cases ho'
      exact hf.1 u hd'
  · obtain ⟨f, hf, hf'⟩ := F.own
    refine ⟨f, fun i x l hx hl => ?_, hf'⟩
    obtain ⟨q1, q2⟩ := hf i x l hx hl
    obtain ⟨vs, j, ho, hr⟩ := q2.obj
    refine ⟨q1, ⟨⟨vs, j, ho, hr.mono le⟩, stays _ (fun hw => ?_) q2.fz, q2.new⟩⟩
    obtain ⟨o, ho', hf⟩ := S.obj _ hw
    rw [ho] at ho'; cases ho'
    exact hf.2.1 _ _ rfl
theorem Frm.unlock {b : Shared} {Wb : Fz} {env : Env} {ρ : List Slot} {W : Fz} {s : Shared} {wr : List Addr} (F : Frm X b Wb env lay ρ W s) (hold : ∀ a ∈ wr, b.heap.get? a = none) (hWb : ∀ a ∈ wr, Wb a = none) (h0 : ∀ a ∈ wr, X.W₀ a = none)
    (hf : ∀ a ∈ wr, ∀ o, W a = some o → NoRep o) : Frm X b Wb env lay ρ (W.drop wr) s := by
  have sub : ∀ a o, (W.drop wr) a = some o → W a = some o := fun a o e => by
    by_cases hw : a ∈ wr
    · simp [Fz.drop, hw] at e
    · simpa [Fz.drop, hw] using e
  have stays : ∀ a, W a = none → (W.drop wr) a = none := fun a h => by
    cases e : (W.drop wr) a with
    | none => rfl
    | some o => rw [sub a o e] at h; cases h
  refine ⟨⟨fun a o e => F.e.good a o (sub a o e), Fz.le_drop h0 F.e.base, F.e.kind, F.e.glob, F.e.blt, F.e.names, F.e.cellsAt, fun i x p hx hp => ?_⟩, ⟨Fz.le_drop hWb F.res.le, fun a o e => F.e.good a o (sub a o e), F.res.stp, fun a o q1 q2 => F.res.news a o (sub a o q1) q2⟩, F.ns, F.lnew, stays _ F.lfz, fun i x hi hx => ?_, F.apart, F.nodup, ?_⟩
  · obtain ⟨v, hv, hr⟩ := F.e.slot i x p hx hp
    exact ⟨v, hv, hr.drop hf⟩
  · rcases F.kinds i x hi hx with h | ⟨h, c, u, q1, q2, q3, q4⟩
    · exact .inl h
    · exact .inr ⟨h, c, u, q1, q2, q3, stays c q4⟩
  · obtain ⟨f, hf0, hf'⟩ := F.own
    refine ⟨f, fun i x l hx hl => ?_, hf'⟩
    obtain ⟨q1, q2⟩ := hf0 i x l hx hl
    obtain ⟨vs, j, ho, hr⟩ := q2.obj
    exact ⟨q1, ⟨⟨vs, j, ho, hr.drop hf⟩, stays _ q2.fz, q2.new⟩⟩

/- the target of a loop -/
noncomputable def TgtOk (X : Top0) (lay : Lay) (tg : Expr) (upd : List Slot → PV → Option (List Slot)) : Prop :=
  ∀ (A : Around) (b : Shared) (Wb : Fz) (env : Env) (W : Fz) (ρ ρ' : List Slot) (s : Shared) (v : Value) (p : PV) (Q : Unit → Shared → Prop), Room A 0 → Frm X b Wb env lay ρ W s → Rep W v p → upd ρ p = some ρ' →
    (∀ s', Frm X b Wb env lay ρ' W s' → GK s s' → KpE env s s' → Q () s') → wpAny (model X.prog X.w) A (assign tg env v) Q NoE s
noncomputable def uName (i : Nat) : List Slot → PV → Option (List Slot) := fun ρ p => some (ρ.set i (.val p))
theorem tg_name {x : Str} {pos : Pos} (i : Nat) (hi : i < lay.wr) (hx : lay.slots[i]? = some x) : TgtOk X lay (.Name x pos) (uName i) := by
  intro A b Wb env W ρ ρ' s v p Q rm F hv hu h
  cases hu
  exact wpAny_assign_Name (F.putK hi hx hv h)
noncomputable def uTup (is : List Nat) : List Slot → PV → Option (List Slot) := fun ρ p => match fUn p with
  | some ps => match Nat.beq ps.length is.length with
    | true => some (setAll ρ is ps)
    | false => none
  | none => none
theorem tg_tup {es : List Expr} {k : Nat} {pos : Pos} {is : List Nat} (t : Tgs lay es is) : TgtOk X lay (.Tuple es k pos) (uTup is) := by
  intro A b Wb env W ρ ρ' s v p Q rm F hv hu h
  unfold uTup at hu
  split at hu <;> try (cases hu; done)
  rename_i ps hps
  split at hu <;> try (cases hu; done)
  rename_i hl
  cases hu
  exact unpack_ok rm.handled t F hv hps (Nat.eq_of_beq_eq_true hl) h

/- for -/
noncomputable def forD (upd : List Slot → PV → Option (List Slot)) (D : DenS) : List PV → DenS
  | [], ρ => some (.next, ρ)
  | p :: l, ρ => match upd ρ p with
    | some ρ₁ => match D ρ₁ with
      | some (f, ρ₂) => match f with
        | .next => forD upd D l ρ₂
        | .cont => forD upd D l ρ₂
        | .brk => some (.next, ρ₂)
        | .ret r => some (.ret r, ρ₂)
      | none => none
    | none => none
structure Gx (gs : List Nat) (s s' : Shared) : Prop where
  os : s'.os = s.os
  gens : ∀ (g : Nat) (x : GenState), g ∉ gs → s.gens[g]? = some x → s'.gens[g]? = some x
  bare : AllBare s.gens → AllBare s'.gens
theorem Gx.refl {gs : List Nat} {s : Shared} : Gx gs s s := ⟨rfl, fun _ _ _ h => h, fun h => h⟩
theorem Gx.gk {gs : List Nat} {s s' s'' : Shared} (a : Gx gs s s') (k : GK s' s'') : Gx gs s s'' := ⟨k.os.trans a.os, fun g x h e => k.gens g x (a.gens g x h e), fun h => k.bare (a.bare h)⟩
theorem Gx.kp {gs : List Nat} {wr : List Addr} {s s' s'' : Shared} (a : Gx gs s s') (k : Kp wr gs s' s'') : Gx gs s s'' := ⟨k.os.trans a.os, fun g x h e => k.gens g x h (a.gens g x h e), fun h => k.bare (a.bare h)⟩
theorem Sep.next {b : Shared} {env : Env} {W W' : Fz} {h h' : Heap} {wr : List Addr} {gs : List Nat} (S : Sep b env W h wr gs) (hfz : ∀ a ∈ wr, W' a = none) (hobj : ∀ a ∈ wr, ∃ o, h'.get? a = some o ∧ Free o) : Sep b env W' h' wr gs :=
  ⟨S.env, S.old, hfz, hobj, S.gs⟩
/-- what a generator yields: its own objects may grow -/
structure FeedGK (X : Top0) (k5 : Nat) (A : Around) (tg : Expr) (it : Value) (gs : List Nat) (St : List PV → List Addr → Fz → Shared → Prop) : Prop where
  frame : ∀ l wr W W' s s', St l wr W s → Good W s.heap → W.le W' → (∀ a ∈ wr, ∀ o, s.heap.get? a = some o → s'.heap.get? a = some o) → (∀ g ∈ gs, ∀ x, s.gens[g]? = some x → s'.gens[g]? = some x) → Good W' s'.heap → St l wr W' s'
  item : ∀ (W : Fz) (s : Shared) (p : PV) (l : List PV) (wr : List Addr) (Q : Value → Shared → Prop), Room A k5 → X.W₀.le W → Good W s.heap → St (p :: l) wr W s → (∀ a ∈ wr, W a = none) → (∀ a ∈ wr, ∃ o, s.heap.get? a = some o ∧ Free o) →
    (∀ v s' W' wr', W.le W' → Good W' s'.heap → (∀ a o, W' a = some o → W a = none → s.heap.get? a = none ∨ a ∈ wr) → Kp wr gs s s' → Rep W' v p → St l wr' W' s' → (∀ a ∈ wr', a ∈ wr ∨ s.heap.get? a = none) → (∀ a ∈ wr', ∃ o, s'.heap.get? a = some o ∧ Free o) → (∀ a ∈ wr', W' a = none) → Q v s') →
    wpAny (model X.prog X.w) A (pyNext it) (fun r s₁ => match r with
      | none => False
      | some v => wpAny (model X.prog X.w) A (letOwnedTupleGo tg it v) (fun _ s₂ => Q v s₂) NoE s₁) NoE s
  done : ∀ (W : Fz) (s : Shared) (wr : List Addr) (Q : Shared → Prop), Room A k5 → X.W₀.le W → Good W s.heap → St [] wr W s → (∀ a ∈ wr, W a = none) → (∀ a ∈ wr, ∃ o, s.heap.get? a = some o ∧ Free o) → (∀ s', Good W s'.heap → Kp wr gs s s' → Q s') →
    wpAny (model X.prog X.w) A (pyNext it) (fun r s₁ => r = none ∧ Q s₁) NoE s

inductive ForInv (X : Top0) (b : Shared) (Wb : Fz) (env : Env) (lay : Lay) (W₀ : Fz) (gs : List Nat) (St : List PV → List Addr → Fz → Shared → Prop) (upd : List Slot → PV → Option (List Slot)) (D : DenS) (f : Flw) (ρ' : List Slot) (s₀ : Shared) (k : Nat) (s : Shared) : Prop
  | mk (l : List PV) (wr : List Addr) (ρ : List Slot) (W : Fz) (hk : k = l.length + 1) (le : W₀.le W) (F : Frm X b Wb env lay ρ W s) (hst : St l wr W s) (S : Sep b env W s.heap wr gs) (hd : forD upd D l ρ = some (f, ρ')) (gx : Gx gs s₀ s) : ForInv X b Wb env lay W₀ gs St upd D f ρ' s₀ k s
theorem for_okG {A : Around} {b : Shared} {Wb : Fz} {env : Env} {tg : Expr} {it : Value} {body : List Stmt} {gs : List Nat} {St : List PV → List Addr → Fz → Shared → Prop} {upd : List Slot → PV → Option (List Slot)} {D : DenS} {f : Flw} {ρ' : List Slot} {R : Result → Shared → Prop}
    (rm : Room A n) {k5 : Nat} (hn5 : k5 ≤ n) (Fd : FeedGK X k5 A tg it gs St) (ht : TgtOk X lay tg upd) (hb : SOk X n lay body D) {ρ₀ : List Slot} {W₀ : Fz} {s₀ : Shared} {l₀ : List PV} {wr₀ : List Addr} (F₀ : Frm X b Wb env lay ρ₀ W₀ s₀) (hst₀ : St l₀ wr₀ W₀ s₀) (S₀ : Sep b env W₀ s₀.heap wr₀ gs)
    (hd₀ : forD upd D l₀ ρ₀ = some (f, ρ')) (hQ : ∀ fl s' W', W₀.le W' → Frm X b Wb env lay ρ' W' s' → Gx gs s₀ s' → FlowIs W' fl f → R (.ok fl) s') :
    codeAny (model X.prog X.w) A (.forLoop tg it body [] env) R s₀ := by
  refine codeAny_forLoop_any (ForInv X b Wb env lay W₀ gs St upd D f ρ' s₀) ?_ (l₀.length + 1)
    ⟨l₀, wr₀, ρ₀, W₀, rfl, .refl, F₀, hst₀, S₀, hd₀, .refl⟩
  rintro k s ⟨l, wr, ρ, W, rfl, le, F, hst, S, hd, gx⟩
  have rm0 := rm.le (Nat.zero_le _)
  have rm5 := rm.le hn5
  cases l with
  | nil =>
    simp only [forD] at hd
    cases hd
    refine wpAny_mono (Fd.done W s wr (fun s₁ => wpAny (model X.prog X.w) A (execs [] env) (fun f s₃ => R (.ok f) s₃) (notedBy (model X.prog X.w) A env fun e s' => R (.error e) s') s₁) rm5 F.e.base F.e.good hst S.fz S.obj fun s' g kp => ?_) (fun r s₁ h₁ => ?_) fun _ _ x => x.elim
    · refine wpAny_execs_nil ?_
      exact hQ .next s' W le (F.change S .refl g (fun a o q1 q2 => by rw [q2] at q1; cases q1) kp) (gx.kp kp) trivial
    · obtain ⟨rfl, h₁⟩ := h₁
      exact h₁
  | cons p l =>
    simp only [forD] at hd
    split at hd <;> try (cases hd; done)
    rename_i ρ₁ hu
    split at hd <;> try (cases hd; done)
    rename_i fl₂ ρ₂ hD
    refine wpAny_mono (Fd.item W s p l wr (fun v s₂ => wpAny (model X.prog X.w) A (assign tg env v) (fun _ s₂ => wpAny (model X.prog X.w) A (execs body env) (fun fl₃ s₃ => match fl₃ with
            | .next | .cont => ∃ m, m < (p :: l).length + 1 ∧ ForInv X b Wb env lay W₀ gs St upd D f ρ' s₀ m s₃
            | .brk => R (.ok .next) s₃
            | .ret v => R (.ok (.ret v)) s₃) (notedBy (model X.prog X.w) A env fun e s' => R (.error e) s') s₂) (notedBy (model X.prog X.w) A env fun e s' => R (.error e) s') s₂) rm5 F.e.base F.e.good hst S.fz S.obj fun v s₁ W₁ wr₁ le₁ g₁ news₁ kp₁ rv hst₁ hsub₁ ho₁ hz₁ => ?_) (fun r s₁ h₁ => ?_) fun _ _ x => x.elim
    · -- the item is here
      have F₁ := F.changeG S le₁ g₁ news₁ kp₁
      have hfz₁ : ∀ a ∈ wr₁, W₁ a = none := hz₁
      have S₁ : Sep b env W₁ s₁.heap wr₁ gs := by
        obtain ⟨m, ob, es, ep, hob, _⟩ := F.ns
        refine ⟨fun hw => ?_, fun a ha => ?_, hfz₁, ho₁, S.gs⟩
        · rcases hsub₁ _ hw with h | h
          · exact S.env h
          · rw [hob] at h; cases h
        · rcases hsub₁ a ha with h | h
          · exact S.old a h
          · cases q : b.heap.get? a with
            | none => rfl
            | some o => rw [F.res.stp.keep a o q] at h; cases h
      have FL := F₁.lock S₁
      have leL : W₁.le (W₁.lock wr₁ s₁.heap) := Fz.le_lock hfz₁
      have lockAt : ∀ a ∈ wr₁, ∀ o, s₁.heap.get? a = some o → (W₁.lock wr₁ s₁.heap) a = some o := fun a ha o ho => by simp [Fz.lock, ha, ho]
      refine wpAny_mono (ht A b Wb env _ ρ ρ₁ s₁ v p _ rm0 FL (rv.mono leL) hu fun s₂ F₂ k₂ _ => ?_) (fun _ _ h => h) fun _ _ x => x.elim
      refine wpAny_mono (hb A env b Wb _ ρ₁ s₂ fl₂ ρ₂ _ rm F₂ hD fun fl s₃ W₃ le₃ F₃ k₃ hfl => ?_) (fun _ _ h => h) fun _ _ x => x.elim
      -- behind the turn: unlock
      have keepWr : ∀ a ∈ wr₁, ∀ o, s₁.heap.get? a = some o → W₃ a = some o ∧ s₃.heap.get? a = some o := fun a ha o ho => ⟨le₃ a o (lockAt a ha o ho), F₃.e.good a o (le₃ a o (lockAt a ha o ho))⟩
      have hcls : ∀ a ∈ wr₁, ∀ o, W₃ a = some o → NoRep o := fun a ha o ho => by
        obtain ⟨o', ho', hf'⟩ := ho₁ a ha
        rw [(keepWr a ha o' ho').1] at ho; cases ho
        exact hf'.2
      have hWb : ∀ a ∈ wr₁, Wb a = none := fun a ha => by
        cases e : Wb a with
        | none => rfl
        | some o => have := le₁ a o (F.res.le a o e); rw [hz₁ a ha] at this; cases this
      have h0 : ∀ a ∈ wr₁, X.W₀ a = none := fun a ha => by
        cases e : X.W₀ a with
        | none => rfl
        | some o => have := le₁ a o (F.e.base a o e); rw [hz₁ a ha] at this; cases this
      have F₄ := F₃.unlock S₁.old hWb h0 hcls
      have le₄ : W₁.le (W₃.drop wr₁) := Fz.le_drop hfz₁ (leL.trans le₃)
      have k₁₃ : GK s₁ s₃ := k₂.trans k₃
      have hst₄ : St l wr₁ (W₃.drop wr₁) s₃ := Fd.frame l wr₁ W₁ _ s₁ s₃ hst₁ g₁ le₄ (fun a ha o ho => (keepWr a ha o ho).2) (fun g _ x e => k₁₃.gens g x e) F₄.e.good
      have S₄ : Sep b env (W₃.drop wr₁) s₃.heap wr₁ gs := S₁.next (fun a ha => by simp [Fz.drop, ha]) fun a ha => by
        obtain ⟨o', ho', hf'⟩ := ho₁ a ha
        exact ⟨o', (keepWr a ha o' ho').2, hf'⟩
      have gx₄ : Gx gs s₀ s₃ := (gx.kp kp₁).gk k₁₃
      have leAll : W₀.le (W₃.drop wr₁) := le.trans (le₁.trans le₄)
      split at hd
      · cases fl <;> simp only [FlowIs] at hfl
        exact ⟨l.length + 1, Nat.lt_succ_self _, l, wr₁, ρ₂, _, rfl, leAll, F₄, hst₄, S₄, hd, gx₄⟩
      · cases fl <;> simp only [FlowIs] at hfl
        exact ⟨l.length + 1, Nat.lt_succ_self _, l, wr₁, ρ₂, _, rfl, leAll, F₄, hst₄, S₄, hd, gx₄⟩
      · cases hd
        cases fl <;> simp only [FlowIs] at hfl
        exact hQ .next s₃ _ leAll F₄ gx₄ trivial
      · cases hd
        cases fl <;> simp only [FlowIs] at hfl
        exact hQ _ s₃ _ leAll F₄ gx₄ (hfl.drop hcls)
    · cases r with
      | none => exact h₁.elim
      | some v => exact wpAny_mono h₁ (fun _ _ h => h) fun _ _ x => x.elim


theorem for_ok {A : Around} {b : Shared} {Wb : Fz} {env : Env} {tg : Expr} {it : Value} {body : List Stmt} {wr : List Addr} {gs : List Nat} {St : List PV → Fz → Shared → Prop} {upd : List Slot → PV → Option (List Slot)} {D : DenS} {f : Flw} {ρ' : List Slot} {R : Result → Shared → Prop}
    (rm : Room A n) (Fd : Feed X A tg it wr gs St) (ht : TgtOk X lay tg upd) (hb : SOk X n lay body D) {ρ₀ : List Slot} {W₀ : Fz} {s₀ : Shared} {l₀ : List PV} (F₀ : Frm X b Wb env lay ρ₀ W₀ s₀) (hst₀ : St l₀ W₀ s₀) (S₀ : Sep b env W₀ s₀.heap wr gs)
    (hd₀ : forD upd D l₀ ρ₀ = some (f, ρ')) (hQ : ∀ fl s' W', W₀.le W' → Frm X b Wb env lay ρ' W' s' → Gx gs s₀ s' → FlowIs W' fl f → R (.ok fl) s') :
    codeAny (model X.prog X.w) A (.forLoop tg it body [] env) R s₀ :=
  for_okG rm (Nat.zero_le _) (St := fun l wr' W s => wr' = wr ∧ St l W s)
    { frame := fun l wr' W W' s s' h g le k kg g' => ⟨h.1, Fd.frame l W W' s s' h.2 g le (h.1 ▸ k) kg g'⟩
      item := fun W s p l wr' Q rm b g h fz _ k => by
        obtain ⟨rfl, h⟩ := h
        exact Fd.item W s p l Q rm b g h fz fun v s' W' le g' news kp rv hst ho => k v s' W' wr' le g' (fun a o x y => .inl (news a o x y)) kp rv ⟨rfl, hst⟩ (fun a ha => .inl ha) ho fun a ha => by
          obtain ⟨o, q, _⟩ := ‹∀ a ∈ wr', ∃ o, s.heap.get? a = some o ∧ Free o› a ha
          cases e : W' a with
          | none => rfl
          | some o' => rw [news a o' e (fz a ha)] at q; cases q
      done := fun W s wr' Q rm b g h fz _ k => by
        obtain ⟨rfl, h⟩ := h
        exact Fd.done W s Q rm b g h fz k }
    ht hb F₀ ⟨rfl, hst₀⟩ S₀ hd₀ hQ

/- where the items come from -/
structure OwnIt (s : Shared) (W' : Fz) (s' : Shared) (wr : List Addr) (gs : List Nat) : Prop where
  new : ∀ a ∈ wr, s.heap.get? a = none
  fz : ∀ a ∈ wr, W' a = none
  obj : ∀ a ∈ wr, ∃ o, s'.heap.get? a = some o ∧ Free o
  gs : ∀ g ∈ gs, s.gens[g]? = none
noncomputable def SrcOk (X : Top0) (n : Nat) (lay : Lay) (tg e : Expr) (d : Dens) : Prop :=
  ∀ (A : Around) (env : Env) (W : Fz) (ρ : List Slot) (s : Shared) (l : List PV) (Q : Value → Shared → Prop), Room A n → EnvOk X env lay ρ W s → d ρ = some l →
    (∀ it s' W' wr gs St, Res W s W' s' → Feed X A tg it wr gs St → St l W' s' → OwnIt s W' s' wr gs → Q it s') → wpAny (model X.prog X.w) A (eval e env) (fun x s₁ => wpAny (model X.prog X.w) A (pyIter x) Q NoE s₁) NoE s
noncomputable def dFor (src : Dens) (upd : List Slot → PV → Option (List Slot)) (D : DenS) : DenS := fun ρ => match src ρ with
  | some l => forD upd D l ρ
  | none => none
theorem Frm.sep {b : Shared} {Wb : Fz} {env : Env} {ρ : List Slot} {W W' : Fz} {s s' : Shared} {wr : List Addr} {gs : List Nat} (F : Frm X b Wb env lay ρ W s) (o : OwnIt s W' s' wr gs) : Sep b env W' s'.heap wr gs :=
  ⟨(fun hw => by
    obtain ⟨m, ob, es, ep, ho, _⟩ := F.ns
    rw [o.new _ hw] at ho; cases ho), (fun a ha => by
    cases q : b.heap.get? a with
    | none => rfl
    | some ob => have := F.res.stp.keep a ob q; rw [o.new a ha] at this; cases this), o.fz, o.obj, (fun g hg => by
    cases q : b.gens[g]? with
    | none => rfl
    | some x => have := F.res.stp.gens g x q; rw [o.gs g hg] at this; cases this)⟩
theorem st_for {tg e : Expr} {body : List Stmt} {pos : Pos} {src : Dens} {upd : List Slot → PV → Option (List Slot)} {D : DenS} (hsrc : SrcOk X n lay tg e src) (ht : TgtOk X lay tg upd) (hb : SOk X n lay body D)
    (hs : ∀ env x, foldedSetIterable e env x = pure x := by intro _ _; rfl) : StOk X n lay (.For tg e body [] pos) (dFor src upd D) := by
  intro A env b Wb W ρ s f ρ' Q rm F hd hQ
  unfold dFor at hd
  split at hd <;> try (cases hd; done)
  rename_i l hl
  refine wpAny_For (hsrc A env W ρ s l _ rm F.e hl fun it s₁ W₁ wr gs St r₁ Fd hst ow => ?_) (hs env)
  refine for_ok rm Fd ht hb (F.step r₁) hst (F.sep ow) hd fun fl s₂ W₂ le₂ F₂ gx hfl => ?_
  exact hQ fl s₂ W₂ (r₁.le.trans le₂) F₂ ⟨gx.os.trans r₁.stp.os, fun g x e => gx.gens g x (fun hg => by rw [ow.gs g hg] at e; cases e) (r₁.stp.gens g x e), fun h => gx.bare (r₁.stp.bare h)⟩ hfl
end
end Mine
end

section
open PySem PySem.W PySem.W.X PySem.W.ZRun PyProof.Rows
set_option Elab.async false
set_option autoImplicit false

namespace Mine
section
variable {X : Top0} {n : Nat} {lay : Lay}

theorem Free.fields {o : Obj} {vs : Array Value} (hd : o.data = .fields vs) : Free o :=
  ⟨(fun v q => by rw [hd] at q; cases q), (fun _ _ q => by rw [hd] at q; cases q), fun D ⟨⟨es, ep, h2, _⟩, _⟩ => by rw [hd] at h2; cases h2⟩
/- no tuple is owned -/
theorem letOwned_no {A : Around} {s : Shared} {tg : Expr} {I : Addr} {o : Obj} {T : String} {v : Value} {Q : Unit → Shared → Prop} (ho : s.heap.get? I = some o) (hc : o.cls = .type T)
    (hT : (["enumerate", "zip", "dict_itemiterator", "dict_reverseitemiterator", "odict_iterator", "itertools.zip_longest", "itertools.pairwise"] : List String).contains T = false) (h : Q () s) :
    wpAny (model X.prog X.w) A (letOwnedTupleGo tg (.ref I) v) Q NoE s := by
  have key : wpAny (model X.prog X.w) A (do
    let (.ref r, .ref a) := ((Value.ref I, v) : Value × Value) | return
    let o ← load r
    match o.cls, o.data with
    | .type n, .fields vs =>
      if ["enumerate", "zip", "dict_itemiterator", "dict_reverseitemiterator", "odict_iterator", "itertools.zip_longest", "itertools.pairwise"].contains n && vs[0]? == some (rawInt a) then
        rule "for.unpacks-the-owned-tuple"
        updateField r 0 .none
    | _, _ => pure ()) Q NoE s := by
    cases v <;> try exact wpAny_pure h
    refine wpAny_bind (wpAny_load ho ?_)
    obtain ⟨c, d, dt, sl⟩ := o
    simp only at hc
    subst hc
    cases dt <;> try exact wpAny_pure h
    simp only [hT, Bool.false_and, Bool.false_eq_true, if_false]
    exact wpAny_pure h
  unfold letOwnedTupleGo
  split
  · exact key
  · exact key
  · exact wpAny_pure h

/- a plain iterator -/
theorem feed_walks {A : Around} {tg : Expr} {I : Addr} {fp wr : List Addr} {P : Nat → Value → Prop} {St' : Nat → Heap → Prop} (items : List PV) (Wk : Walks X.prog X.w A I fp wr items.length P St')
    (hfree : ∀ i h, St' i h → ∀ a ∈ wr, ∃ o, h.get? a = some o ∧ Free o)
    (hgo : ∀ (s : Shared) (i : Nat) (v : Value) (Q : Unit → Shared → Prop), St' i s.heap → Q () s → wpAny (model X.prog X.w) A (letOwnedTupleGo tg (.ref I) v) Q NoE s) :
    Feed X A tg (.ref I) wr [] (fun l W s => ∃ i, l = items.drop i ∧ i ≤ items.length ∧ St' i s.heap ∧ (∀ j v p, P j v → items[j]? = some p → Rep W v p) ∧ ∀ a ∈ fp, a ∈ wr ∨ ∃ o, W a = some o) where
  frame := by
    rintro l W W' s s' ⟨i, hl, hi, hst, hP, hfp⟩ g le hwr _ g'
    refine ⟨i, hl, hi, Wk.frame i _ _ hst fun a ha o ho => ?_, fun j v p hp he => (hP j v p hp he).mono le, fun a ha => ?_⟩
    · rcases hfp a ha with h | ⟨o', h⟩
      · exact hwr a h o ho
      · have := g a o' h
        rw [this] at ho
        cases ho
        exact g' a _ (le a _ h)
    · rcases hfp a ha with h | ⟨o', h⟩
      · exact .inl h
      · exact .inr ⟨o', le a o' h⟩
  item := by
    rintro W s p l Q rm hb g ⟨i, hl, hi, hst, hP, hfp⟩ hfz hQ
    have hlt : i < items.length := by
      rcases Nat.lt_or_ge i items.length with h | h
      · exact h
      · rw [List.drop_eq_nil_of_le h] at hl; cases hl
    have hd : items.drop i = items[i] :: items.drop (i + 1) := List.drop_eq_getElem_cons hlt
    rw [hd] at hl
    cases hl
    refine Wk.item i s _ _ hlt hst fun v h' tk hPv hst' hk => ?_
    refine hgo _ (i + 1) v _ hst' ?_
    refine hQ v _ W .refl (fun a o e => ?_) (fun a o q1 q2 => by rw [q2] at q1; cases q1) ⟨fun a o ha e => hk a o ha e, rfl, fun _ _ _ e => e, fun e => e⟩ (hP i v _ hPv (by simp [hlt])) ⟨i + 1, rfl, hlt, hst', hP, hfp⟩ (hfree _ _ hst')
    exact hk a o (fun hw => by rw [hfz a hw] at e; cases e) (g a o e)
  done := by
    rintro W s Q rm hb g ⟨i, hl, hi, hst, hP, hfp⟩ hfz hQ
    have hie : i = items.length := by
      have := congrArg List.length hl
      simp at this
      lia
    subst hie
    refine Wk.done s _ _ hst fun h' tk hk => ⟨rfl, hQ _ (fun a o e => ?_) ⟨fun a o ha e => hk a o ha e, rfl, fun _ _ _ e => e, fun e => e⟩⟩
    exact hk a o (fun hw => by rw [hfz a hw] at e; cases e) (g a o e)
  self := by
    rintro W s l Q rm hb g ⟨i, hl, hi, hst, hP, hfp⟩ hQ
    exact Wk.self i s _ _ hst hQ

theorem fresh_none {s : Shared} : s.heap.get? s.heap.objs.size = none := by
  cases q : s.heap.get? s.heap.objs.size with
  | none => rfl
  | some o => exact absurd (Heap.lt_size q) (Nat.lt_irrefl _)

/- over a list -/
noncomputable def sList (d : Den) : Dens := fun ρ => match d ρ with
  | some (.list l) => some l
  | _ => none
theorem src_list {tg e : Expr} {d : Den} (h : EOk X n lay e d) : SrcOk X n lay tg e (sList d) := by
  intro A env W ρ s l Q rm eo hd hQ
  unfold sList at hd
  split at hd <;> try (cases hd; done)
  rename_i l' hl'
  cases hd
  refine h A env W ρ s (.list l) _ rm eo hl' fun v s₁ W₁ r₁ p₁ => ?_
  cases p₁ with
  | @list a vs k _ e rs =>
    have hL : s₁.heap.IsList a vs.toArray := ⟨_, r₁.good _ _ e, rfl, _, rfl⟩
    refine wpAny_pyIter_list hL ?_
    have r₂ : Res W₁ s₁ W₁ { s₁ with heap := s₁.heap.push { cls := .type "list_iterator", data := .fields #[.ref a, .int 0 0] }, toks := s₁.toks } := .heap r₁.good fun _ _ e => Heap.get?_push_of_some _ e
    have hne : a ≠ s₁.heap.objs.size := Nat.ne_of_lt (Heap.lt_size (r₁.good _ _ e))
    have hit : (s₁.heap.push { cls := .type "list_iterator", data := .fields #[.ref a, .int 0 0] }).IsListIter s₁.heap.objs.size a 0 := ⟨_, Heap.get?_push_size _ rfl, rfl, rfl⟩
    have hsz : vs.toArray.size = l.length := by rw [List.size_toArray, rs.length]
    refine hQ _ _ W₁ [s₁.heap.objs.size] [] _ (r₁.trans r₂) (feed_walks (fp := [s₁.heap.objs.size, a]) (P := fun i v => vs.toArray[i]? = some v) (St' := fun i h => h.IsListIter s₁.heap.objs.size a i ∧ h.IsList a vs.toArray) l
      (hsz ▸ Walks.list rm.handled s₁.heap.objs.size a hne vs.toArray) ?_ ?_) ?_ ?_
    · rintro i h ⟨⟨o, ho, hc, hd⟩, _⟩ b hb
      rw [List.mem_singleton.mp hb]
      exact ⟨o, ho, .fields hd⟩
    · rintro s i v Q ⟨⟨o, ho, hc, hd⟩, _⟩ h
      exact letOwned_no ho hc (by decide) h
    · refine ⟨0, rfl, Nat.zero_le _, ⟨hit, hL.push _⟩, fun j u p hu hp => ?_, fun b hb => ?_⟩
      · obtain ⟨u', hu', ru⟩ := rs.get hp
        simp at hu
        rw [hu] at hu'; cases hu'
        exact ru
      · simp at hb
        rcases hb with rfl | rfl
        · exact .inl (by simp)
        · exact .inr ⟨_, e⟩
    · have hn : ∀ b ∈ [s₁.heap.objs.size], s.heap.get? b = none := fun b hb => by
        rw [List.mem_singleton.mp hb]
        cases q : s.heap.get? s₁.heap.objs.size with
        | none => rfl
        | some o => have := r₁.stp.keep _ _ q; rw [fresh_none] at this; cases this
      refine ⟨hn, fun b hb => ?_, fun b hb => ?_, fun g hg => by cases hg⟩
      · rw [List.mem_singleton.mp hb]; exact r₁.good.size
      · rw [List.mem_singleton.mp hb]
        exact ⟨_, Heap.get?_push_size _ rfl, .fields rfl⟩

/- over a text's signs -/
noncomputable def signs (x : Str) : List PV := x.cps.toList.map fun c => .str ⟨#[c]⟩
noncomputable def sStr (d : Den) : Dens := fun ρ => match d ρ with
  | some (.str x) => some (signs x)
  | _ => none
theorem src_str {tg e : Expr} {d : Den} (h : EOk X n lay e d) : SrcOk X n lay tg e (sStr d) := by
  intro A env W ρ s l Q rm eo hd hQ
  unfold sStr at hd
  split at hd <;> try (cases hd; done)
  rename_i x hx
  cases hd
  refine h A env W ρ s (.str x) _ rm eo hx fun v s₁ W₁ r₁ p₁ => ?_
  cases p₁ with
  | str x t =>
    refine wpAny_pyIter_strU ?_
    have r₂ : Res W₁ s₁ W₁ { s₁ with heap := s₁.heap.push { cls := .type (strIterType x), data := .fields #[.str x t, .int 0 0] }, toks := s₁.toks } := .heap r₁.good fun _ _ e => Heap.get?_push_of_some _ e
    have hsz : x.cps.size = (signs x).length := by simp [signs]
    have hfree : ∀ (i : Nat) (h : Heap), h.IsStrIter s₁.heap.objs.size (strIterType x) x t i → ∀ a ∈ [s₁.heap.objs.size], ∃ o, h.get? a = some o ∧ Free o := by
      rintro i h ⟨o, ho, hc, hd⟩ b hb
      rw [List.mem_singleton.mp hb]
      exact ⟨o, ho, .fields hd⟩
    refine hQ _ _ W₁ [s₁.heap.objs.size] [] _ (r₁.trans r₂) (feed_walks (fp := [s₁.heap.objs.size]) (P := SignAt x) (St' := fun i h => h.IsStrIter s₁.heap.objs.size (strIterType x) x t i) (signs x) ?_ hfree ?_) ?_ ?_
    · rw [← hsz]
      unfold strIterType
      split
      · exact Walks.strAscii rm.handled _ x t
      · exact Walks.strWide rm.handled _ x t
    · rintro s i v Q ⟨o, ho, hc, hd⟩ h
      exact letOwned_no ho hc (by unfold strIterType; split <;> decide) h
    · refine ⟨0, rfl, Nat.zero_le _, ⟨_, Heap.get?_push_size _ rfl, rfl, rfl⟩, fun j u p hu hp => ?_, fun b hb => .inl hb⟩
      obtain ⟨c, tk, hc, rfl⟩ := hu
      simp [signs] at hp
      obtain ⟨c', hc', rfl⟩ := hp
      rw [hc] at hc'; cases hc'
      exact .str _ _
    · have hn : ∀ b ∈ [s₁.heap.objs.size], s.heap.get? b = none := fun b hb => by
        rw [List.mem_singleton.mp hb]
        cases q : s.heap.get? s₁.heap.objs.size with
        | none => rfl
        | some o => have := r₁.stp.keep _ _ q; rw [fresh_none] at this; cases this
      refine ⟨hn, fun b hb => ?_, fun b hb => ?_, fun g hg => by cases hg⟩
      · rw [List.mem_singleton.mp hb]; exact r₁.good.size
      · exact hfree 0 _ ⟨_, Heap.get?_push_size _ rfl, rfl, rfl⟩ b hb

/- over a range -/
noncomputable def upTo : Nat → Int → List PV
  | 0, _ => []
  | k + 1, a => .int a :: upTo k (a + 1)
theorem upTo_get : ∀ (k : Nat) (a : Int) (j : Nat) (p : PV), (upTo k a)[j]? = some p → p = .int (a + j)
  | 0, _, _, _, h => by simp [upTo] at h
  | k + 1, a, 0, p, h => by simp [upTo] at h; rw [← h]; simp
  | k + 1, a, j + 1, p, h => by
    have := upTo_get k (a + 1) j p (by simpa [upTo] using h)
    rw [this]; congr 1; push_cast; lia
theorem upTo_length : ∀ (k : Nat) (a : Int), (upTo k a).length = k
  | 0, _ => rfl
  | k + 1, a => by simp [upTo, upTo_length k]
noncomputable def okR (a : Int) : Bool := Nat.blt a.natAbs 1000000
theorem okR_lt {a : Int} (h : okR a = true) : a.natAbs < 1000000 := Nat.le_of_ble_eq_true h
noncomputable def rangeI (a b : Int) : Option (List PV) := match okR a with
  | true => match okR b with
    | true => some (upTo (b - a).toNat a)
    | false => none
  | false => none
theorem range_iter {tg : Expr} {A : Around} {W : Fz} {s : Shared} {r : Addr} {a b : Int} {t u v : Tok} {l : List PV} {Q : Value → Shared → Prop} (hh : A.handled = none) (g : Good W s.heap) (hr : IsRange s.heap r a b 1 t u v) (hl : rangeI a b = some l)
    (hQ : ∀ it s' wr gs St, Res W s W s' → Feed X A tg it wr gs St → St l W s' → OwnIt s W s' wr gs → Q it s') : wpAny (model X.prog X.w) A (pyIter (.ref r)) Q NoE s := by
  unfold rangeI at hl
  split at hl <;> try (cases hl; done)
  rename_i ha
  split at hl <;> try (cases hl; done)
  rename_i hb
  cases hl
  have ha := okR_lt ha
  have hb := okR_lt hb
  have hsm : Builtin.Range.small a b 1 = true := small_one (by lia) (by omega) (by omega) (by omega)
  refine wpAny_pyIter_range hr hsm ?_
  have hsz : Builtin.Range.rangeSize a b 1 = ((upTo (b - a).toNat a).length : Int) := by
    rw [rangeSize_one, upTo_length]
    split <;> lia
  have r₂ : Res W s W { s with heap := s.heap.push { cls := .type "range_iterator", data := .fields #[rawInt a, rawInt (Builtin.Range.rangeSize a b 1), rawInt 1] }, toks := s.toks } := .heap g fun _ _ e => Heap.get?_push_of_some _ e
  refine hQ _ _ [s.heap.objs.size] [] _ r₂ (feed_walks (fp := [s.heap.objs.size]) (P := fun i v => ∃ t, v = .int (a + i * 1) t)
    (St' := fun i h => IsRangeIter h s.heap.objs.size (a + (i : Nat) * 1) (((upTo (b - a).toNat a).length : Int) - (i : Nat)) 1) (upTo (b - a).toNat a) (Walks.range hh _ a 1 _) ?_ ?_) ?_ ?_
  · intro i h hi c hc
    rw [List.mem_singleton.mp hc]
    exact ⟨_, hi, .fields rfl⟩
  · intro s i v Q hi h
    exact letOwned_no hi rfl (by decide) h
  · refine ⟨0, rfl, Nat.zero_le _, ?_, fun j v p hv hp => ?_, fun c hc => .inl hc⟩
    · show IsRangeIter _ _ _ _ _
      have := Heap.get?_push_size s.heap (o := { cls := .type "range_iterator", data := .fields #[rawInt a, rawInt (Builtin.Range.rangeSize a b 1), rawInt 1] }) rfl
      rw [hsz] at this
      rw [hsz]
      simpa using this
    · obtain ⟨t, rfl⟩ := hv
      rw [upTo_get _ _ _ _ hp]
      rw [Int.mul_one]
      exact .int _ _
  · refine ⟨fun c hc => ?_, fun c hc => ?_, fun c hc => ?_, fun g hg => by cases hg⟩
    · rw [List.mem_singleton.mp hc]; exact fresh_none
    · rw [List.mem_singleton.mp hc]; exact g.size
    · rw [List.mem_singleton.mp hc]
      exact ⟨_, Heap.get?_push_size _ rfl, .fields rfl⟩
noncomputable def sRange1 (d : Den) : Dens := fun ρ => match d ρ with
  | some (.int b) => rangeI 0 b
  | _ => none
theorem Res.pushed {W : Fz} {s : Shared} {o : Obj} {t : Nat} (g : Good W s.heap) : Res W s W { s with heap := s.heap.push o, toks := t } := .heap g fun _ _ e => Heap.get?_push_of_some _ e
theorem OwnIt.back {W' : Fz} {s s₁ s' : Shared} {wr : List Addr} {gs : List Nat} (k : Stp s s₁) (o : OwnIt s₁ W' s' wr gs) : OwnIt s W' s' wr gs :=
  ⟨(fun a ha => by
    cases q : s.heap.get? a with
    | none => rfl
    | some ob => have := k.keep a ob q; rw [o.new a ha] at this; cases this), o.fz, o.obj, (fun g hg => by
    cases q : s.gens[g]? with
    | none => rfl
    | some x => have := k.gens g x q; rw [o.gs g hg] at this; cases this)⟩
theorem src_range1 {tg e : Expr} {p pos : Pos} {d : Den} (h : EOk X n lay e d) (hx : lay.names.lookup (Str.ofString "range") = some .globalImplicit) (hg : X.mg (Str.ofString "range") = none) (hv : X.mb (Str.ofString "range") = some (.type "range"))
    (hs : ∀ env, starEach [e] env = [(false, eval e env)] := by intro _; rfl) : SrcOk X n lay tg (.Call (.Name (Str.ofString "range") p) [e] [] pos) (sRange1 d) := by
  intro A env W ρ s l Q rm eo hd hQ
  unfold sRange1 at hd
  split at hd <;> try (cases hd; done)
  rename_i b hb
  refine Call_ (name_blt eo hx hg hv ?_ (by decide)) rfl
  refine PyProof.Rows.callWith_type1 (spliced_more (h A env W ρ s (.int b) _ rm eo hb fun v s₁ W₁ r₁ p₁ => spliced_none ?_) (hs env)) (hs env) rfl
  cases p₁ with
  | int b t =>
    refine call_range_1 ?_
    have r₂ : Res W₁ s₁ W₁ _ := Res.pushed (o := { cls := .type "range", data := .fields #[.int 0 s₁.toks, .int b t, .int 1 (s₁.toks + 1)] }) (t := s₁.toks + 1 + 1) r₁.good
    refine range_iter (X := X) (tg := tg) rm.handled r₂.good (IsRange.new _ _ _ _ _ _ _) hd fun it s₃ wr gs St r₃ Fd hst ow => ?_
    exact hQ it s₃ W₁ wr gs St ((r₁.trans r₂).trans r₃) Fd hst (ow.back (r₁.trans r₂).stp)
noncomputable def sRange2 (d e : Den) : Dens := fun ρ => match d ρ with
  | some (.int a) => match e ρ with
    | some (.int b) => rangeI a b
    | _ => none
  | _ => none
theorem src_range2 {tg e e' : Expr} {p pos : Pos} {d d' : Den} (h : EOk X n lay e d) (h' : EOk X n lay e' d') (hx : lay.names.lookup (Str.ofString "range") = some .globalImplicit) (hg : X.mg (Str.ofString "range") = none) (hv : X.mb (Str.ofString "range") = some (.type "range"))
    (hs : ∀ env, starEach [e, e'] env = [(false, eval e env), (false, eval e' env)] := by intro _; rfl) (hs' : ∀ env, starEach [e'] env = [(false, eval e' env)] := by intro _; rfl) : SrcOk X n lay tg (.Call (.Name (Str.ofString "range") p) [e, e'] [] pos) (sRange2 d d') := by
  intro A env W ρ s l Q rm eo hd hQ
  unfold sRange2 at hd
  split at hd <;> try (cases hd; done)
  rename_i a ha
  split at hd <;> try (cases hd; done)
  rename_i b hb
  refine Call_ (name_blt eo hx hg hv ?_ (by decide)) rfl
  refine PyProof.Rows.callWith_type1 (spliced_more (h A env W ρ s (.int a) _ rm eo ha fun v s₁ W₁ r₁ p₁ => ?_) (by rw [hs, hs'])) (by rw [hs, hs']) (by rw [hs']; rfl)
  refine spliced_more (h' A env W₁ ρ s₁ (.int b) _ rm (eo.res r₁) hb fun v' s₂ W₂ r₂ p₂ => spliced_none ?_) (hs' env)
  cases p₁ with
  | int a t =>
    cases p₂ with
    | int b u =>
      refine call_range_2 ?_
      have r₃ : Res W₂ s₂ W₂ _ := Res.pushed (o := { cls := .type "range", data := .fields #[.int a t, .int b u, .int 1 s₂.toks] }) (t := s₂.toks + 1) r₂.good
      refine range_iter (X := X) (tg := tg) rm.handled r₃.good (IsRange.new _ _ _ _ _ _ _) hd fun it s₄ wr gs St r₄ Fd hst ow => ?_
      exact hQ it s₄ W₂ wr gs St (((r₁.trans r₂).trans r₃).trans r₄) Fd hst (ow.back ((r₁.trans r₂).trans r₃).stp)
end
end Mine
end

section
open PySem PySem.W PySem.W.X PySem.W.ZRun PyProof.Rows
set_option Elab.async false
set_option autoImplicit false

namespace Mine
section
variable {X : Top0} {n : Nat} {lay : Lay}

/- enumerate -/
noncomputable def enumFrom : Nat → List PV → List PV
  | _, [] => []
  | k, p :: l => .tup [.int k, p] :: enumFrom (k + 1) l
theorem Free.enum {h : Heap} {e it : Addr} {i : Int} {old : Value} (x : IsEnum h e it i old) : ∃ o, h.get? e = some o ∧ Free o := ⟨_, x, .fields rfl⟩
theorem feed_enum {A : Around} {es : List Expr} {k : Nat} {pos : Pos} {e it : Addr} {fp : List Addr} {P : Nat → Value → Prop} {StD : Nat → Heap → Prop} (inner : List PV) (D : Draws X.prog X.w A.in1 it fp inner.length P StD)
    (hei : e ≠ it) (hef : e ∉ fp) (hif : it ∈ fp) (hfree : ∀ i h, StD i h → ∃ o, h.get? it = some o ∧ Free o) :
    Feed X A (.Tuple es k pos) (.ref e) [e, it] [] (fun l W s => ∃ i, l = enumFrom i (inner.drop i) ∧ i ≤ inner.length ∧ (∃ old, IsEnum s.heap e it i old) ∧ StD i s.heap ∧ (∀ j v p, P j v → inner[j]? = some p → Rep W v p) ∧ ∀ a ∈ fp, a = it ∨ ∃ o, W a = some o) where
  frame := by
    rintro l W W' s s' ⟨i, hl, hi, ⟨old, he⟩, hst, hP, hfp⟩ g le hwr _ g'
    refine ⟨i, hl, hi, ⟨old, hwr e (by simp) _ he⟩, D.frame i _ _ hst fun a ha o ho => ?_, fun j v p hp he => (hP j v p hp he).mono le, fun a ha => ?_⟩
    · rcases hfp a ha with h | ⟨o', h⟩
      · exact hwr a (by simp [h]) o ho
      · have := g a o' h
        rw [this] at ho
        cases ho
        exact g' a _ (le a _ h)
    · rcases hfp a ha with h | ⟨o', h⟩
      · exact .inl h
      · exact .inr ⟨o', le a o' h⟩
  item := by
    rintro W s p l Q rm hb g ⟨i, hl, hi, ⟨old, he⟩, hst, hP, hfp⟩ hfz hQ
    have hlt : i < inner.length := by
      rcases Nat.lt_or_ge i inner.length with h | h
      · exact h
      · rw [List.drop_eq_nil_of_le h] at hl; cases hl
    have hd : inner.drop i = inner[i] :: inner.drop (i + 1) := List.drop_eq_getElem_cons hlt
    rw [hd] at hl
    simp only [enumFrom] at hl
    cases hl
    refine wpAny_pyNext_enum_itemD D he hst hlt hei hef fun x h' tk hPx ho hst' hT hsz hk => ?_
    refine wpAny_letOwnedTupleGo_enum ho fun h'' he'' hs'' => ?_
    have hTe : s.heap.objs.size ≠ e := Nat.ne_of_gt (Heap.lt_size he)
    have hTW : W s.heap.objs.size = none := g.size
    have hk2 : ∀ a o, a ≠ e → a ≠ it → s.heap.get? a = some o → h''.get? a = some o := fun a o h1 h2 ho => (hs''.2 a h1).trans (hk a o h1 h2 ho)
    have hT'' : h''.get? s.heap.objs.size = some { cls := .type "tuple", data := .seq [Value.int i tk, x].toArray } := (hs''.2 _ hTe).trans hT
    have hg'' : Good W h'' := fun a o ea => by
      have h1 : a ≠ e := fun q => by rw [q, hfz e (by simp)] at ea; cases ea
      have h2 : a ≠ it := fun q => by rw [q, hfz it (by simp)] at ea; cases ea
      exact hk2 a o h1 h2 (g a o ea)
    have hst'' : StD (i + 1) h'' := D.frame _ _ _ hst' fun a ha o y => (hs''.2 a fun q => hef (q ▸ ha)).trans y
    refine hQ _ _ (W.add s.heap.objs.size { cls := .type "tuple", data := .seq [Value.int i tk, x].toArray }) (Fz.le_add hTW) (hg''.add hT'') (fun a o q1 q2 => ?_) ⟨fun a o ha e' => hk2 a o (fun q => ha (by simp [q])) (fun q => ha (by simp [q])) e', rfl, fun _ _ _ e => e, fun e => e⟩ ?_ ?_ ?_
    · by_cases ha : a = s.heap.objs.size
      · rw [ha]; exact fresh_none
      · rw [Fz.add_ne ha, q2] at q1; cases q1
    · refine .tup Fz.add_self (.cons (.int _ _) (.cons ((hP i x _ hPx (by simp [hlt])).mono (Fz.le_add hTW)) .nil))
    · refine ⟨i + 1, rfl, hlt, ⟨_, by simpa using he''⟩, hst'', fun j v p hp hj => (hP j v p hp hj).mono (Fz.le_add hTW), fun a ha => ?_⟩
      rcases hfp a ha with h | ⟨o', h⟩
      · exact .inl h
      · exact .inr ⟨o', Fz.le_add hTW a o' h⟩
    · intro a ha
      simp at ha
      rcases ha with rfl | rfl
      · exact Free.enum he''
      · exact hfree _ _ hst''
  done := by
    rintro W s Q rm hb g ⟨i, hl, hi, ⟨old, he⟩, hst, hP, hfp⟩ hfz hQ
    have hie : i = inner.length := by
      rcases Nat.lt_or_ge i inner.length with h | h
      · have hd : inner.drop i = inner[i] :: inner.drop (i + 1) := List.drop_eq_getElem_cons h
        rw [hd] at hl
        simp [enumFrom] at hl
      · lia
    subst hie
    refine wpAny_pyNext_enum_endD D he hst fun h' hx => ⟨rfl, hQ _ (fun a o e => ?_) ⟨fun a o ha e => hx a o (fun q => ha (by simp [q])) e, rfl, fun _ _ _ e => e, fun e => e⟩⟩
    exact hx a o (fun q => by rw [q, hfz it (by simp)] at e; cases e) (g a o e)
  self := by
    rintro W s l Q rm hb g ⟨i, hl, hi, ⟨old, he⟩, hst, hP, hfp⟩ hQ
    exact wpAny_pyIter_enum he hQ
/-- the items that are counted: of a list, a text -/
noncomputable def fCnt : PV → Option (List PV)
  | .list l => some l
  | .str x => some (signs x)
  | _ => none
noncomputable def sEnum (d : Den) : Dens := fun ρ => match d ρ with
  | some p => match fCnt p with
    | some l => some (enumFrom 0 l)
    | none => none
  | none => none
theorem src_enum {es : List Expr} {k : Nat} {tpos p pos : Pos} {e : Expr} {d : Den} (h : EOk X n lay e d) (hx : lay.names.lookup (Str.ofString "enumerate") = some .globalImplicit) (hg : X.mg (Str.ofString "enumerate") = none) (hv : X.mb (Str.ofString "enumerate") = some (.type "enumerate"))
    (hs : ∀ env, starEach [e] env = [(false, eval e env)] := by intro _; rfl) : SrcOk X n lay (.Tuple es k tpos) (.Call (.Name (Str.ofString "enumerate") p) [e] [] pos) (sEnum d) := by
  intro A env W ρ s l Q rm eo hd hQ
  unfold sEnum at hd
  split at hd <;> try (cases hd; done)
  rename_i q hq
  split at hd <;> try (cases hd; done)
  rename_i inner hin
  cases hd
  refine Call_ (name_blt eo hx hg hv ?_ (by decide)) rfl
  refine PyProof.Rows.callWith_type1 (spliced_more (h A env W ρ s q _ rm eo hq fun v s₁ W₁ r₁ p₁ => spliced_none ?_) (hs env)) (hs env) rfl
  have own : ∀ h', h'.objs.size = s₁.heap.objs.size + 2 → IsEnum h' (s₁.heap.objs.size + 1) s₁.heap.objs.size 0 .none → (∃ o, h'.get? s₁.heap.objs.size = some o ∧ Free o) → OwnIt s W₁ { s₁ with heap := h' } [s₁.heap.objs.size + 1, s₁.heap.objs.size] [] := by
    intro h' hsz he hit
    have hn : ∀ c, s₁.heap.objs.size ≤ c → s₁.heap.get? c = none := fun c hc => by
      cases q : s₁.heap.get? c with
      | none => rfl
      | some o => exact absurd (Heap.lt_size q) (Nat.not_lt.mpr hc)
    have hW : ∀ c, s₁.heap.objs.size ≤ c → W₁ c = none := fun c hc => by
      cases q : W₁ c with
      | none => rfl
      | some o => have := r₁.good c o q; rw [hn c hc] at this; cases this
    have hle : ∀ c ∈ [s₁.heap.objs.size + 1, s₁.heap.objs.size], s₁.heap.objs.size ≤ c := fun c hc => by simp at hc; lia
    refine OwnIt.back (s₁ := s₁) r₁.stp ⟨fun c hc => hn c (hle c hc), fun c hc => hW c (hle c hc), fun c hc => ?_, fun g hg => by cases hg⟩
    simp at hc
    rcases hc with rfl | rfl
    · exact Free.enum he
    · exact hit
  cases p₁ <;> simp only [fCnt] at hin <;> cases hin
  · rename_i x t
    refine call_enumerate_str fun h' he hit hsz hk => ?_
    have r₂ : Res W₁ s₁ W₁ { s₁ with heap := h' } := .heap (t := s₁.toks) r₁.good hk
    refine wpAny_pyIter_enum he ?_
    have hszx : x.cps.size = (signs x).length := by simp [signs]
    have hfree : ∀ (i : Nat) (h : Heap), h.IsStrIter s₁.heap.objs.size (strIterType x) x t i → ∃ o, h.get? s₁.heap.objs.size = some o ∧ Free o := by
      rintro i h ⟨o, ho, hc, hd⟩
      exact ⟨o, ho, .fields hd⟩
    refine hQ _ _ W₁ _ [] _ (r₁.trans r₂) (feed_enum (e := s₁.heap.objs.size + 1) (it := s₁.heap.objs.size) (fp := [s₁.heap.objs.size]) (P := fun i v => ∃ c u, x.cps[i]? = some c ∧ v = .str ⟨#[c]⟩ u)
      (StD := fun i h => h.IsStrIter s₁.heap.objs.size (strIterType x) x t i) (signs x) ?_ (Nat.succ_ne_self _) (fun hc => Nat.succ_ne_self _ (List.mem_singleton.mp hc)) (by simp) hfree) ?_ (own h' hsz he (hfree 0 _ hit))
    · rw [← hszx]
      unfold strIterType
      split
      · exact Draws.strAscii (A := A.in1) rm.handled _ x t
      · exact Draws.strWide (A := A.in1) rm.handled _ x t
    · refine ⟨0, rfl, Nat.zero_le _, ⟨_, he⟩, hit, fun j u p hu hp => ?_, fun b hb => .inl (List.mem_singleton.mp hb)⟩
      obtain ⟨c, tk, hc, rfl⟩ := hu
      simp [signs] at hp
      obtain ⟨c', hc', rfl⟩ := hp
      rw [hc] at hc'; cases hc'
      exact .str _ _
  · rename_i a vs k' e' rs
    have hL : s₁.heap.IsList a vs.toArray := ⟨_, r₁.good _ _ e', rfl, _, rfl⟩
    refine call_enumerate_list hL fun h' he hit hsz hk => ?_
    have r₂ : Res W₁ s₁ W₁ { s₁ with heap := h' } := .heap (t := s₁.toks) r₁.good hk
    refine wpAny_pyIter_enum he ?_
    have hlt : a < s₁.heap.objs.size := Heap.lt_size (r₁.good _ _ e')
    have hszx : vs.toArray.size = inner.length := by rw [List.size_toArray, rs.length]
    have hfree : ∀ (i : Nat) (h : Heap), h.IsListIter s₁.heap.objs.size a i ∧ h.IsList a vs.toArray → ∃ o, h.get? s₁.heap.objs.size = some o ∧ Free o := by
      rintro i h ⟨⟨o, ho, hc, hd⟩, _⟩
      exact ⟨o, ho, .fields hd⟩
    have hnin : s₁.heap.objs.size + 1 ∉ [s₁.heap.objs.size, a] := fun hc => by
      rcases List.mem_cons.mp hc with h | h
      · exact Nat.succ_ne_self _ h
      · exact Nat.ne_of_gt (Nat.lt_succ_of_lt hlt) (List.mem_singleton.mp h)
    have hL' : h'.IsList a vs.toArray := hL.at fun o e => hk a o e
    refine hQ _ _ W₁ _ [] _ (r₁.trans r₂) (feed_enum (e := s₁.heap.objs.size + 1) (it := s₁.heap.objs.size) (fp := [s₁.heap.objs.size, a]) (P := fun i v => vs.toArray[i]? = some v)
      (StD := fun i h => h.IsListIter s₁.heap.objs.size a i ∧ h.IsList a vs.toArray) inner (hszx ▸ Draws.list (A := A.in1) rm.handled _ a (Nat.ne_of_lt hlt) vs.toArray) (Nat.succ_ne_self _) hnin (by simp) hfree) ?_ (own h' hsz he (hfree 0 _ ⟨hit, hL'⟩))
    refine ⟨0, rfl, Nat.zero_le _, ⟨_, he⟩, ⟨hit, hL'⟩, fun j u p hu hp => ?_, fun b hb => ?_⟩
    · obtain ⟨u', hu', ru⟩ := rs.get hp
      simp at hu
      rw [hu] at hu'; cases hu'
      exact ru
    · simp at hb
      rcases hb with rfl | rfl
      · exact .inl rfl
      · exact .inr ⟨_, e'⟩
end
end Mine
end

section
open PySem PySem.W PySem.W.X PySem.W.ZRun PyProof.Rows
set_option Elab.async false
set_option autoImplicit false

namespace Mine
section
variable {X : Top0} {n : Nat} {lay : Lay}

noncomputable def NoOwn (ρ : List Slot) : Prop := ∀ (i : Nat) (l : List PV), ρ[i]? ≠ some (Slot.own l)
theorem NoOwn.set {ρ : List Slot} (h : NoOwn ρ) (i : Nat) (p : PV) : NoOwn (ρ.set i (.val p)) := fun j l e => by
  rcases slot_set e with ⟨_, q⟩ | ⟨_, q⟩
  · cases q
  · exact h j l q
theorem NoOwn.setAll : ∀ (is : List Nat) (ps : List PV) {ρ : List Slot}, NoOwn ρ → NoOwn (setAll ρ is ps)
  | [], _, _, h => by simpa [Mine.setAll] using h
  | _ :: _, [], _, h => by simpa [Mine.setAll] using h
  | i :: is, p :: ps, _, h => by
    simp only [Mine.setAll]
    exact NoOwn.setAll is ps (h.set i p)
noncomputable def UpdOk (upd : List Slot → PV → Option (List Slot)) : Prop := ∀ ρ p ρ', upd ρ p = some ρ' → NoOwn ρ → NoOwn ρ'
theorem upd_name (i : Nat) : UpdOk (uName i) := fun ρ p ρ' h hn => by cases h; exact hn.set i p
theorem upd_tup (is : List Nat) : UpdOk (uTup is) := fun ρ p ρ' h hn => by
  unfold uTup at h
  split at h <;> try (cases h; done)
  split at h <;> try (cases h; done)
  cases h
  exact hn.setAll is _

theorem OwnAt.change {b : Shared} {W W' : Fz} {s s' : Shared} {D : Addr} {l : List PV} (o : OwnAt b W s.heap D l) (le : W.le W') (news : ∀ a o, W' a = some o → W a = none → s.heap.get? a = none)
    (k : ∀ o, s.heap.get? D = some o → s'.heap.get? D = some o) : OwnAt b W' s'.heap D l := by
  obtain ⟨vs, j, ho, hr⟩ := o.obj
  refine ⟨⟨vs, j, k _ ho, hr.mono le⟩, ?_, o.new⟩
  cases e : W' D with
  | none => rfl
  | some o' => rw [news D o' e o.fz] at ho; cases ho

/-- a list beside the frame is turned -/
theorem Frm.other {b : Shared} {Wb : Fz} {env : Env} {ρ : List Slot} {W : Fz} {s : Shared} {D : Addr} {l : List PV} {h' : Heap} {tk : Nat} (F : Frm X b Wb env lay ρ W s) (hn : NoOwn ρ) (o : OwnAt b W s.heap D l) (hs : Heap.SameBut D s.heap h') :
    Frm X b Wb env lay ρ W { s with heap := h', toks := tk } := by
  obtain ⟨vs, j, ho, hr⟩ := o.obj
  obtain ⟨m, hm⟩ := F.ns
  have nmK : ∀ (y : Str) (u : Value), NameIs env s.heap y u → NameIs env h' y u := fun y u hu => by
    rcases hu with ⟨e, m', hm', hv'⟩ | ⟨e, c, hc, hv'⟩
    · exact .inl ⟨e, m', hm'.sameBut hs (Ns_ne_list hm' ho).symm, hv'⟩
    · exact .inr ⟨e, c, hc, hv'.sameBut hs (cell_ne_list hv' ho).symm⟩
  refine ⟨⟨(F.turn (tk := tk) hs o.new o.fz).good, F.e.base, F.e.kind, F.e.glob, F.e.blt, F.e.names, F.e.cellsAt, fun i x p hx hp => ?_⟩, F.turn hs o.new o.fz, ⟨m, hm.sameBut hs (Ns_ne_list hm ho).symm⟩, F.lnew, F.lfz, fun i x hi hx => ?_, F.apart, F.nodup, ?_⟩
  · obtain ⟨v, hv, hr'⟩ := F.e.slot i x p hx hp
    exact ⟨v, nmK x v hv, hr'⟩
  · rcases F.kinds i x hi hx with h | ⟨h, c, u, q1, q2, q3, q4⟩
    · exact .inl h
    · exact .inr ⟨h, c, u, q1, q2.sameBut hs (cell_ne_list q2 ho).symm, q3, q4⟩
  · exact ⟨fun _ => 0, fun i x l hx hl => absurd hl (hn i l), fun i j x y l l' hx hy hl => absurd hl (hn i l)⟩

/- the tests of a comprehension -/
noncomputable def CondOk (X : Top0) (n : Nat) (lay : Lay) (ifs : List Expr) (d : DenB) : Prop :=
  ∀ (A : Around) (env : Env) (W : Fz) (ρ : List Slot) (s : Shared) (c : Bool) (Q : Bool → Shared → Prop), Room A n → EnvOk X env lay ρ W s → d ρ = some c → (∀ s' W', Res W s W' s' → Q c s') →
    wpAny (model X.prog X.w) A (forIn ifs true fun c r => if r = true then do let ok ← isTrue c env (eval c env); pure (ForInStep.yield ok) else pure (ForInStep.yield r)) Q NoE s
noncomputable def dYes : DenB := fun _ => some true
theorem c_nil : CondOk X n lay [] dYes := by
  intro A env W ρ s c Q rm e hd hQ
  cases hd
  exact wpAny_tests_nil (hQ s W (.refl e.good))
theorem c_one {t : Expr} {d : DenB} (h : TOk X n lay t d) : CondOk X n lay [t] d := by
  intro A env W ρ s c Q rm e hd hQ
  exact wpAny_tests_one (h A env W ρ s c Q rm e hd hQ)

noncomputable def compD (upd : List Slot → PV → Option (List Slot)) (t : DenB) (d : Den) : List PV → List Slot → Option (List PV)
  | [], _ => some []
  | p :: l, ρ => match upd ρ p with
    | some ρ₁ => match t ρ₁ with
      | some true => match d ρ₁ with
        | some q => match compD upd t d l ρ₁ with
          | some qs => some (q :: qs)
          | none => none
        | none => none
      | some false => compD upd t d l ρ₁
      | none => none
    | none => none

/-- what a comprehension's turn hands on: the items, the slots -/
noncomputable abbrev DenE := List Slot → Option (List PV × List Slot)
noncomputable def EmitOk (X : Top0) (n : Nat) (lay : Lay) (em : Value → Env → Sem Unit) (D : DenE) : Prop :=
  ∀ (A : Around) (b : Shared) (Wb : Fz) (env : Env) (W : Fz) (ρ ρ' : List Slot) (s : Shared) (acc qs : List PV) (a : Addr) (Q : Unit → Shared → Prop), Room A n → Frm X b Wb env lay ρ W s → NoOwn ρ → OwnAt b W s.heap a acc → a ≠ env.locals →
    D ρ = some (qs, ρ') → acc.length + qs.length ≤ 16777216 →
    (∀ s' W', W.le W' → Frm X b Wb env lay ρ' W' s' → NoOwn ρ' → GK s s' → OwnAt b W' s'.heap a (acc ++ qs) → Q () s') → wpAny (model X.prog X.w) A (em (.ref a) env) Q NoE s
noncomputable def compG (upd : List Slot → PV → Option (List Slot)) (t : DenB) (d : DenE) : List PV → DenE
  | [], ρ => some ([], ρ)
  | p :: l, ρ => match upd ρ p with
    | some ρ₁ => match t ρ₁ with
      | some true => match d ρ₁ with
        | some (q, ρ₂) => match compG upd t d l ρ₂ with
          | some (qs, ρ₃) => some (q ++ qs, ρ₃)
          | none => none
        | none => none
      | some false => compG upd t d l ρ₁
      | none => none
    | none => none
noncomputable def emApp (elt : Expr) : Value → Env → Sem Unit := fun acc env => do let _ ← call (.builtin "list.append") [acc, ← eval elt env]
noncomputable def dOne (d : Den) : DenE := fun ρ => match d ρ with
  | some p => some ([p], ρ)
  | none => none
theorem em_app {elt : Expr} {d : Den} (he : EOk X n lay elt d) : EmitOk X n lay (emApp elt) (dOne d) := by
  intro A b Wb env W ρ ρ' s acc qs a Q rm F hn O hl hd hle hQ
  unfold dOne at hd
  split at hd <;> try (cases hd; done)
  rename_i q hq
  cases hd
  unfold emApp
  refine wpAny_bind (he A env W ρ s q _ rm F.e hq fun u s₄ W₄ r₄ p₄ => ?_)
  have O₄ := O.res r₄
  have F₄ := F.step r₄
  obtain ⟨vs, j, ho, hr⟩ := O₄.obj
  have hle' : acc.length + 1 ≤ 16777216 := by simpa using hle
  have hsz : vs.toArray.size ≤ sizeLine := by rw [List.size_toArray, hr.length]; exact Nat.le_trans (Nat.le_add_right _ _) hle'
  refine wpAny_bind (wpAny_list_append_plain (items := vs.toArray) ⟨j, ho⟩ (fun h' hp' hs' => ?_) hsz)
  obtain ⟨j', ho'⟩ := hp'
  have F₅ := F₄.other (tk := s₄.toks) hn O₄ hs'
  exact wpAny_pure (hQ _ W₄ r₄.le F₅ hn (r₄.stp.gk.trans .heap) ⟨⟨vs ++ [u], j', by simpa using ho', hr.append (.cons p₄ .nil)⟩, O₄.fz, O₄.new⟩)

inductive CompInv (X : Top0) (b : Shared) (Wb : Fz) (env : Env) (lay : Lay) (W₀ : Fz) (gs : List Nat) (wr : List Addr) (St : List PV → Fz → Shared → Prop) (upd : List Slot → PV → Option (List Slot)) (t : DenB) (d : DenE) (D : Addr) (acc₀ out : List PV) (ρe : List Slot) (s₀ : Shared) (k : Nat) (s : Shared) : Prop
  | mk (l : List PV) (ρ : List Slot) (W : Fz) (acc out' : List PV) (hk : k = l.length + 1) (le : W₀.le W) (F : Frm X b Wb env lay ρ W s) (hn : NoOwn ρ) (hst : St l W s) (S : Sep b env W s.heap wr gs) (O : OwnAt b W s.heap D acc) (hd : compG upd t d l ρ = some (out', ρe)) (hacc : acc ++ out' = acc₀ ++ out) (gx : Gx gs s₀ s) : CompInv X b Wb env lay W₀ gs wr St upd t d D acc₀ out ρe s₀ k s
theorem comp_loopG {A : Around} {b : Shared} {Wb : Fz} {env : Env} {tg ec : Expr} {dep : Nat} {ipos : Pos} {ifs : List Expr} {it : Value} {wr : List Addr} {gs : List Nat} {St : List PV → Fz → Shared → Prop} {upd : List Slot → PV → Option (List Slot)} {t : DenB} {em : Value → Env → Sem Unit} {d : DenE} {D : Addr} {R : Result → Shared → Prop}
    (hnf : (Code.compLoop ec dep it (.ref D) env).isFrame = false) (hq : (Code.compLoop ec dep it (.ref D) env).quiet = true) (hun : A.under (.compLoop ec dep it (.ref D) env) = A)
    (hturn : compTurn ec dep it (.ref D) env = (do
      standAt ipos
      match ← pyNext it with
      | none => pure (.done .next)
      | some v =>
        letOwnedTupleGo tg it v
        assign tg env v
        let mut ok := true
        for c in ifs do
          if ok then ok ← isTrue c env (eval c env)
        if ok then
          em (.ref D) env
        again (.compLoop ec dep it (.ref D) env)))
    (rm : Room A n) (Fd : Feed X A tg it wr gs St) (ht : TgtOk X lay tg upd) (hu : UpdOk upd) (hc : CondOk X n lay ifs t) (he : EmitOk X n lay em d) {ρ₀ ρe : List Slot} {W₀ : Fz} {s₀ : Shared} {l₀ acc₀ out : List PV}
    (F₀ : Frm X b Wb env lay ρ₀ W₀ s₀) (hn₀ : NoOwn ρ₀) (hst₀ : St l₀ W₀ s₀) (S₀ : Sep b env W₀ s₀.heap wr gs) (O₀ : OwnAt b W₀ s₀.heap D acc₀) (hDl : D ≠ env.locals)
    (hd₀ : compG upd t d l₀ ρ₀ = some (out, ρe)) (hlen : acc₀.length + out.length ≤ 16777216)
    (hQ : ∀ s' W', W₀.le W' → Frm X b Wb env lay ρe W' s' → NoOwn ρe → Gx gs s₀ s' → OwnAt b W' s'.heap D (acc₀ ++ out) → R (.ok .next) s') :
    codeAny (model X.prog X.w) A (.compLoop ec dep it (.ref D) env) R s₀ := by
  refine codeAny_loop hq (CompInv X b Wb env lay W₀ gs wr St upd t d D acc₀ out ρe s₀) ?_ (l₀.length + 1)
    ⟨l₀, ρ₀, W₀, acc₀, out, rfl, .refl, F₀, hn₀, hst₀, S₀, O₀, hd₀, rfl, .refl⟩
  rintro k s ⟨l, ρ, W, acc, out', rfl, le, F, hn, hst, S, O, hd, hacc, gx⟩
  have hle : acc.length + out'.length ≤ 16777216 := by
    have := congrArg List.length hacc
    simp only [List.length_append] at this
    lia
  have rm0 := rm.le (Nat.zero_le _)
  have hDw : D ∉ wr := fun hw => by
    obtain ⟨o, ho, hf⟩ := S.obj D hw
    obtain ⟨vs, j, ho', _⟩ := O.obj
    rw [ho] at ho'; cases ho'
    exact hf.2.1 _ _ rfl
  rw [hun]
  show wpAny _ A (if (Code.compLoop ec dep it (.ref D) env).isFrame then (compTurn ec dep it (.ref D) env).onRaise (leaving env) else (compTurn ec dep it (.ref D) env).onRaise (fun x => do noteFrame x env; theTreesLotGoes x)) _ _ s
  rw [hnf, if_neg Bool.false_ne_true]
  refine wpAny_noted ?_
  rw [hturn]
  refine wpAny_bind (wpAny_standAt (wpAny_bind ?_))
  cases l with
  | nil =>
    simp only [compG] at hd
    cases hd
    refine wpAny_mono (Fd.done W s (fun s₁ => R (.ok .next) s₁) rm0 F.e.base F.e.good hst S.fz fun s' g kp => ?_) (fun r s₁ h₁ => ?_) fun _ _ x => x.elim
    · refine hQ s' W le (F.change S .refl g (fun a o q1 q2 => by rw [q2] at q1; cases q1) kp) hn (gx.kp kp) ?_
      rw [← hacc, List.append_nil]
      exact O.change .refl (fun a o q1 q2 => by rw [q2] at q1; cases q1) fun o e => kp.keep D o hDw e
    · obtain ⟨rfl, h₁⟩ := h₁
      exact wpAny_pure h₁
  | cons p l =>
    simp only [compG] at hd
    split at hd <;> try (cases hd; done)
    rename_i ρ₁ hu₁
    refine wpAny_mono (Fd.item W s p l (fun v s₂ => wpAny (model X.prog X.w) A (assign tg env v) (fun _ s₂ => wpAny (model X.prog X.w) A (forIn ifs true fun c r => if r = true then do let ok ← isTrue c env (eval c env); pure (ForInStep.yield ok) else pure (ForInStep.yield r)) (fun ok s₃ =>
        if ok = true then wpAny (model X.prog X.w) A (em (.ref D) env) (fun _ s₄ => ∃ m, m < (p :: l).length + 1 ∧ CompInv X b Wb env lay W₀ gs wr St upd t d D acc₀ out ρe s₀ m s₄) NoE s₃ else ∃ m, m < (p :: l).length + 1 ∧ CompInv X b Wb env lay W₀ gs wr St upd t d D acc₀ out ρe s₀ m s₃) NoE s₂) NoE s₂) rm0 F.e.base F.e.good hst S.fz fun v s₁ W₁ le₁ g₁ news₁ kp₁ rv hst₁ ho₁ => ?_) (fun r s₁ h₁ => ?_) fun _ _ x => x.elim
    · have F₁ := F.change S le₁ g₁ news₁ kp₁
      have O₁ : OwnAt b W₁ s₁.heap D acc := O.change le₁ news₁ fun o e => kp₁.keep D o hDw e
      have hfz₁ : ∀ a ∈ wr, W₁ a = none := fun a ha => by
        obtain ⟨o, ho, _⟩ := S.obj a ha
        cases e : W₁ a with
        | none => rfl
        | some o' => rw [news₁ a o' e (S.fz a ha)] at ho; cases ho
      have S₁ : Sep b env W₁ s₁.heap wr gs := S.next hfz₁ ho₁
      have FL := F₁.lock S₁
      have leL : W₁.le (W₁.lock wr s₁.heap) := Fz.le_lock hfz₁
      have lockAt : ∀ a ∈ wr, ∀ o, s₁.heap.get? a = some o → (W₁.lock wr s₁.heap) a = some o := fun a ha o ho => by simp [Fz.lock, ha, ho]
      have OL : OwnAt b (W₁.lock wr s₁.heap) s₁.heap D acc := by
        obtain ⟨vs, j, ho, hr⟩ := O₁.obj
        exact ⟨⟨vs, j, ho, hr.mono leL⟩, by simp [Fz.lock, hDw, O₁.fz], O₁.new⟩
      refine ht A b Wb env _ ρ ρ₁ s₁ v p _ rm0 FL (rv.mono leL) hu₁ fun s₂ F₂ k₂ e₂ => ?_
      have hn₁ := hu ρ p ρ₁ hu₁ hn
      have O₂ : OwnAt b (W₁.lock wr s₁.heap) s₂.heap D acc := by
        obtain ⟨vs, j, ho, hr⟩ := OL.obj
        exact ⟨⟨vs, j, e₂ D _ ho hDl (fun v q => by cases q), hr⟩, OL.fz, OL.new⟩
      -- behind the turn: unlock
      have back : ∀ (s₃ : Shared) (W₃ : Fz) (ρ₂ : List Slot) (acc' out₂ : List PV), (W₁.lock wr s₁.heap).le W₃ → Frm X b Wb env lay ρ₂ W₃ s₃ → NoOwn ρ₂ → GK s₁ s₃ → OwnAt b W₃ s₃.heap D acc' → compG upd t d l ρ₂ = some (out₂, ρe) → acc' ++ out₂ = acc₀ ++ out →
          ∃ m, m < (p :: l).length + 1 ∧ CompInv X b Wb env lay W₀ gs wr St upd t d D acc₀ out ρe s₀ m s₃ := by
        intro s₃ W₃ ρ₂ acc' out₂ le₃ F₃ hn₃ k₁₃ O₃ hd₃ hacc₃
        have keepWr : ∀ a ∈ wr, ∀ o, s₁.heap.get? a = some o → W₃ a = some o ∧ s₃.heap.get? a = some o := fun a ha o ho => ⟨le₃ a o (lockAt a ha o ho), F₃.e.good a o (le₃ a o (lockAt a ha o ho))⟩
        have hcls : ∀ a ∈ wr, ∀ o, W₃ a = some o → NoRep o := fun a ha o ho => by
          obtain ⟨o', ho', hf'⟩ := ho₁ a ha
          rw [(keepWr a ha o' ho').1] at ho; cases ho
          exact hf'.2
        have hWb : ∀ a ∈ wr, Wb a = none := fun a ha => by
          cases e : Wb a with
          | none => rfl
          | some o => have := F.res.le a o e; rw [S.fz a ha] at this; cases this
        have h0 : ∀ a ∈ wr, X.W₀ a = none := fun a ha => by
          cases e : X.W₀ a with
          | none => rfl
          | some o => have := F.e.base a o e; rw [S.fz a ha] at this; cases this
        have F₄ := F₃.unlock S.old hWb h0 hcls
        have le₄ : W₁.le (W₃.drop wr) := Fz.le_drop hfz₁ (leL.trans le₃)
        refine ⟨l.length + 1, Nat.lt_succ_self _, l, ρ₂, W₃.drop wr, acc', out₂, rfl, le.trans (le₁.trans le₄), F₄, hn₃, Fd.frame l W₁ _ s₁ s₃ hst₁ g₁ le₄ (fun a ha o ho => (keepWr a ha o ho).2) (fun g _ x e => k₁₃.gens g x e) F₄.e.good, ?_, ?_, hd₃, hacc₃, (gx.kp kp₁).gk k₁₃⟩
        · exact S.next (fun a ha => by simp [Fz.drop, ha]) fun a ha => by
            obtain ⟨o', ho', hf'⟩ := ho₁ a ha
            exact ⟨o', (keepWr a ha o' ho').2, hf'⟩
        · obtain ⟨vs, j, ho, hr⟩ := O₃.obj
          exact ⟨⟨vs, j, ho, hr.drop hcls⟩, by simp [Fz.drop, O₃.fz], O₃.new⟩
      split at hd
      · rename_i htt
        split at hd <;> try (cases hd; done)
        rename_i q ρ₂ hq
        split at hd <;> try (cases hd; done)
        rename_i qs ρ₃ hqs
        cases hd
        refine hc A env _ ρ₁ s₂ true _ rm F₂.e htt fun s₃ W₃ r₃ => ?_
        rw [if_pos rfl]
        refine he A b Wb env W₃ ρ₁ ρ₂ s₃ acc q D _ rm (F₂.step r₃) hn₁ (O₂.res r₃) hDl hq (by simp only [List.length_append] at hle; lia) fun s₄ W₄ le₄ F₄ hn₄ k₄ O₄ => ?_
        exact back s₄ W₄ ρ₂ (acc ++ q) qs (r₃.le.trans le₄) F₄ hn₄ (k₂.trans (r₃.stp.gk.trans k₄)) O₄ hqs (by rw [← hacc, List.append_assoc])
      · rename_i htt
        refine hc A env _ ρ₁ s₂ false _ rm F₂.e htt fun s₃ W₃ r₃ => ?_
        rw [if_neg Bool.false_ne_true]
        exact back s₃ W₃ ρ₁ acc out' r₃.le (F₂.step r₃) hn₁ (k₂.trans r₃.stp.gk) (O₂.res r₃) hd hacc
      · cases hd
    · cases r with
      | none => exact h₁.elim
      | some v =>
        refine wpAny_bind (wpAny_mono h₁ (fun _ s₂ h₂ => wpAny_bind (wpAny_mono h₂ (fun _ s₃ h₃ => wpAny_bind (wpAny_mono h₃ (fun ok s₄ h₄ => ?_) fun _ _ x => x.elim)) fun _ _ x => x.elim)) fun _ _ x => x.elim)
        cases ok with
        | false => exact wpAny_pure ⟨rfl, h₄⟩
        | true =>
          exact wpAny_bind (wpAny_mono h₄ (fun x s₅ h₅ => wpAny_pure ⟨rfl, h₅⟩) fun _ _ x => x.elim)

/- the inner for -/
theorem compD_len {upd : List Slot → PV → Option (List Slot)} {t : DenB} {d : Den} : ∀ {l : List PV} {ρ : List Slot} {out : List PV}, compD upd t d l ρ = some out → out.length ≤ l.length ∧ ∃ ρe, compG upd t (dOne d) l ρ = some (out, ρe) := by
  intro l
  induction l with
  | nil => intro ρ out h; simp only [compD] at h; cases h; exact ⟨Nat.le_refl _, ρ, rfl⟩
  | cons p l ih =>
    intro ρ out h
    simp only [compD] at h
    split at h <;> try (cases h; done)
    rename_i ρ₁ hu
    split at h
    · rename_i ht
      split at h <;> try (cases h; done)
      rename_i q hq
      split at h <;> try (cases h; done)
      rename_i qs hqs
      cases h
      obtain ⟨h1, ρe, h2⟩ := ih hqs
      exact ⟨Nat.succ_le_succ h1, ρe, by simp only [compG, hu, ht, dOne, hq, h2]; rfl⟩
    · rename_i ht
      obtain ⟨h1, ρe, h2⟩ := ih h
      exact ⟨Nat.le_succ_of_le h1, ρe, by simp only [compG, hu, ht, h2]⟩
    · cases h
theorem comp_loop {A : Around} {b : Shared} {Wb : Fz} {env : Env} {tg elt iter : Expr} {ifs : List Expr} {scope : Scope} {pos : Pos} {it : Value} {wr : List Addr} {gs : List Nat} {St : List PV → Fz → Shared → Prop} {upd : List Slot → PV → Option (List Slot)} {t : DenB} {d : Den} {D : Addr} {R : Result → Shared → Prop}
    (rm : Room A n) (Fd : Feed X A tg it wr gs St) (ht : TgtOk X lay tg upd) (hu : UpdOk upd) (hc : CondOk X n lay ifs t) (he : EOk X n lay elt d) {ρ₀ : List Slot} {W₀ : Fz} {s₀ : Shared} {l₀ acc₀ out : List PV}
    (F₀ : Frm X b Wb env lay ρ₀ W₀ s₀) (hn₀ : NoOwn ρ₀) (hst₀ : St l₀ W₀ s₀) (S₀ : Sep b env W₀ s₀.heap wr gs) (O₀ : OwnAt b W₀ s₀.heap D acc₀) (hDl : D ≠ env.locals)
    (hd₀ : compD upd t d l₀ ρ₀ = some out) (hlen : acc₀.length + l₀.length ≤ 16777216)
    (hQ : ∀ s' W' ρ', W₀.le W' → Frm X b Wb env lay ρ' W' s' → Gx gs s₀ s' → OwnAt b W' s'.heap D (acc₀ ++ out) → R (.ok .next) s') :
    codeAny (model X.prog X.w) A (.compLoop (.ListComp elt [⟨tg, iter, ifs, 0⟩] scope pos) 0 it (.ref D) env) R s₀ :=
  let ⟨hl, ρe, hG⟩ := compD_len hd₀
  comp_loopG (ipos := iter.pos) (em := emApp elt) rfl rfl rfl (compTurn_list ..) rm Fd ht hu hc (em_app he) F₀ hn₀ hst₀ S₀ O₀ hDl hG (Nat.le_trans (Nat.add_le_add_left hl _) hlen) fun s' W' le F _ gx O => hQ s' W' ρe le F gx O
end
end Mine
end

section
open PySem PySem.W PySem.W.X PySem.W.ZRun PyProof.Rows
set_option Elab.async false
set_option autoImplicit false

namespace Mine

/- the closure of a comprehension -/
noncomputable def clOf (env : Env) : List (Str × NameKind) → List (Str × Addr) → List (Str × Addr)
  | [], acc => acc
  | (x, k) :: r, acc => if k == .free then clOf env r ((x, (env.cells.lookup x).getD 0) :: acc) else clOf env r acc
theorem closure_is {env : Env} {scope : Scope} (h : ∀ x ∈ scope.names, x.2 = .free → ∃ c, env.cells.lookup x.1 = some c) : closureFor scope env = pure (clOf env scope.names []) := by
  have key : ∀ (names : List (Str × NameKind)) (acc : List (Str × Addr)), (∀ x ∈ names, x.2 = .free → ∃ c, env.cells.lookup x.1 = some c) →
      (forIn names acc fun (x : Str × NameKind) (cs : List (Str × Addr)) => (do
        if x.2 == .free then
          let a ← cellOf env x.1
          pure (ForInStep.yield ((x.1, a) :: cs))
        else pure (ForInStep.yield cs) : Sem (ForInStep (List (Str × Addr))))) = (pure (clOf env names acc) : Sem (List (Str × Addr))) := by
    intro names
    induction names with
    | nil => intro acc _; rfl
    | cons x r ih =>
      intro acc hx
      obtain ⟨y, k⟩ := x
      rw [List.forIn_cons]
      cases hk : k == NameKind.free with
      | true =>
        obtain ⟨c, hc⟩ := hx (y, k) (List.mem_cons_self ..) (by simpa using hk)
        simp only [hk, if_true, cellOf, hc, clOf, Option.getD_some]
        exact ih _ fun z hz => hx z (List.mem_cons_of_mem _ hz)
      | false =>
        simp only [hk, Bool.false_eq_true, if_false, clOf]
        exact ih _ fun z hz => hx z (List.mem_cons_of_mem _ hz)
  unfold closureFor
  exact congrArg (fun (m : Sem (List (Str × Addr))) => (bind m fun cs => pure cs : Sem (List (Str × Addr)))) (key scope.names [] h)
theorem clOf_acc {env : Env} {x : Str} {c : Addr} (hc : env.cells.lookup x = some c) : ∀ (names : List (Str × NameKind)) (acc : List (Str × Addr)), acc.lookup x = some c → (clOf env names acc).lookup x = some c
  | [], _, h => h
  | (y, k) :: r, acc, h => by
    unfold clOf
    split
    · refine clOf_acc hc r _ ?_
      rw [List.lookup_cons]
      cases hb : x == y with
      | true => rw [← beq_iff_eq.mp hb, hc]; rfl
      | false => exact h
    · exact clOf_acc hc r acc h
theorem clOf_some {env : Env} {x : Str} {c : Addr} (hc : env.cells.lookup x = some c) : ∀ (names : List (Str × NameKind)) (acc : List (Str × Addr)), names.lookup x = some .free → (clOf env names acc).lookup x = some c
  | [], _, h => by cases h
  | (y, k) :: r, acc, h => by
    rw [List.lookup_cons] at h
    unfold clOf
    cases hb : x == y with
    | true =>
      rw [hb] at h
      cases h
      rw [if_pos (by decide)]
      refine clOf_acc hc r _ ?_
      rw [List.lookup_cons, hb, ← beq_iff_eq.mp hb, hc]; rfl
    | false =>
      rw [hb] at h
      split
      · exact clOf_some hc r _ h
      · exact clOf_some hc r _ h

noncomputable def relN (names cn : List (Str × NameKind)) : List (Str × NameKind) := cn.map fun (n, k) => if (k == .free && names.lookup n == some .cell) then (n, .cell) else (n, k)
noncomputable def capS (ρ : List Slot) (i : Nat) : Slot := match ρ[i]? with
  | some (.val p) => .val p
  | _ => .unset
/-- a comprehension's block: its own names first, then those it sees -/
structure CompLay (lay layc : Lay) (scope : Scope) (caps : List Nat) : Prop where
  names : layc.names = relN lay.names scope.names
  loc : ∀ (i : Nat) (x : Str), i < layc.wr → layc.slots[i]? = some x → layc.names.lookup x = some .local
  cap : ∀ (j i : Nat) (x : Str), caps[j]? = some i → layc.slots[layc.wr + j]? = some x → lay.slots[i]? = some x ∧ lay.names.lookup x = some .cell ∧ scope.names.lookup x = some .free ∧ layc.names.lookup x = some .cell
  nodup : ∀ (i j : Nat) (x : Str), layc.slots[i]? = some x → layc.slots[j]? = some x → i = j
  free : ∀ x ∈ scope.names, x.2 = .free → lay.names.lookup x.1 = some .cell
  cells : ∀ x, layc.names.lookup x = some .cell → lay.names.lookup x = some .cell ∧ scope.names.lookup x = some .free
  nocell : ∀ y ∈ scope.names, y.2 ≠ .cell
  hnames : ∀ x ∈ scope.names, x.2 = .local → scope.names.lookup x.1 = some .local
  kind : scope.kind = .function
noncomputable def startC (k : Nat) (caps : List Nat) (ρ : List Slot) : List Slot := List.replicate k .unset ++ caps.map (capS ρ)

section
variable {X : Top0} {n : Nat} {lay layc : Lay}

theorem startC_get {k : Nat} {caps : List Nat} {ρ : List Slot} {i : Nat} {q : Slot} (h : (startC k caps ρ)[i]? = some q) : q = .unset ∨ ∃ j c p, i = k + j ∧ caps[j]? = some c ∧ ρ[c]? = some (.val p) ∧ q = .val p := by
  unfold startC at h
  by_cases hi : i < k
  · rw [List.getElem?_append_left (by simpa using hi)] at h
    obtain ⟨_, h⟩ := List.getElem?_eq_some_iff.mp h
    simp at h
    exact .inl h.symm
  · rw [List.getElem?_append_right (by simpa using hi), List.getElem?_map, List.length_replicate] at h
    cases e : caps[i - k]? with
    | none => rw [e] at h; cases h
    | some c =>
      rw [e] at h
      simp only [Option.map_some, Option.some.injEq] at h
      unfold capS at h
      split at h
      · rename_i p hp
        exact .inr ⟨i - k, c, p, by omega, e, hp, h.symm⟩
      · exact .inl h.symm
theorem startC_noOwn {k : Nat} {caps : List Nat} {ρ : List Slot} : NoOwn (startC k caps ρ) := fun i l h => by
  rcases startC_get h with e | ⟨_, _, _, _, _, _, e⟩ <;> cases e

theorem comp_frame {b : Shared} {W W₁ : Fz} {s₁ : Shared} {env : Env} {ρ : List Slot} {scope : Scope} {caps : List Nat} {C : Addr} {h' : Heap} {tk : Nat} {m : Str → Option Value} (L : CompLay lay layc scope caps) (e : EnvOk X env lay ρ W₁ s₁) (r : Res W b W₁ { s₁ with heap := h', toks := tk })
    (hk : ∀ a o, s₁.heap.get? a = some o → h'.get? a = some o) (hm : h'.Ns C m) (hb : b.heap.get? C = none) (hW : W₁ C = none) :
    Frm X b W (compEnvC scope (clOf env scope.names []) C env) layc (startC layc.wr caps ρ) W₁ { s₁ with heap := h', toks := tk } := by
  have hnames : (compEnvC scope (clOf env scope.names []) C env).scope.names = layc.names := by
    rw [L.names]
    show (scope.names.map _) = relN lay.names scope.names
    unfold relN
    refine List.map_congr_left fun x _ => ?_
    obtain ⟨y, k⟩ := x
    have hk' : env.kindOf y = lay.names.lookup y := e.kindOf y
    simp only [e.kind, hk', beq_self_eq_true, Bool.and_true]
  refine ⟨⟨r.good, e.base, L.kind, e.glob, e.blt, hnames, fun x hx => ?_, fun i x p hx hp => ?_⟩, r, ⟨m, hm⟩, hb, hW, fun i x hi hx => ?_, fun i x y c hi hx hkx => ?_, L.nodup, ?_⟩
  · obtain ⟨h1, h2⟩ := L.cells x hx
    obtain ⟨c, hc⟩ := e.cellsAt x h1
    exact ⟨c, clOf_some hc scope.names [] h2⟩
  · rcases startC_get hp with q | ⟨j, i', p', rfl, hj, hρ, q⟩
    · cases q
    · cases q
      obtain ⟨h1, h2, h3, h4⟩ := L.cap j i' x hj hx
      obtain ⟨v, hv, rv⟩ := e.slot i' x p h1 hρ
      refine ⟨v, ?_, rv⟩
      rcases hv with ⟨q, _⟩ | ⟨_, c, hc, hv⟩
      · rw [e.kindOf, h2] at q; cases q
      · refine .inr ⟨?_, c, clOf_some hc scope.names [] h3, hv.keeps hk⟩
        unfold Env.kindOf
        rw [hnames]; exact h4
  · refine .inl ?_
    unfold Env.kindOf
    rw [hnames]; exact L.loc i x hi hx
  · exfalso
    unfold Env.kindOf at hkx
    rw [hnames, L.loc i x hi hx] at hkx; cases hkx
  · exact ⟨fun _ => 0, fun i x l hx hl => absurd hl (startC_noOwn i l), fun i j x y l l' hx hy hl => absurd hl (startC_noOwn i l)⟩

noncomputable def dComp (src : Dens) (k : Nat) (caps : List Nat) (upd : List Slot → PV → Option (List Slot)) (t : DenB) (d : Den) : Den := fun ρ => match src ρ with
  | some l => match Nat.ble l.length 16777216 with
    | true => match compD upd t d l (startC k caps ρ) with
      | some qs => some (.list qs)
      | none => none
    | false => none
  | none => none
/-- the comprehension run, for what is done with its list -/
theorem comp_run {A : Around} {env : Env} {W : Fz} {ρ : List Slot} {s : Shared} {tg elt iter : Expr} {ifs : List Expr} {scope : Scope} {pos p' : Pos} {src : Dens} {upd : List Slot → PV → Option (List Slot)} {t : DenB} {d : Den} {caps : List Nat} {use : Option (Value → Sem Unit)} {p : PV} {Q : Value → Shared → Prop}
    (L : CompLay lay layc scope caps) (hsrc : SrcOk X n lay tg iter src) (ht : TgtOk X layc tg upd) (hu : UpdOk upd) (hc : CondOk X n layc ifs t) (he : EOk X n layc elt d) (hs : ∀ x, foldedSetIterable iter env x = pure x)
    (rm : Room A n) (e : EnvOk X env lay ρ W s) (hd : dComp src layc.wr caps upd t d ρ = some p)
    (hQ : ∀ D C s' W', Res W s W' s' → Rep W' (.ref D) p → s.heap.get? C = none → W' C = none → (∃ m, s'.heap.Ns C m) → compPost (model X.prog X.w) A NoE use Q (.ref D) C (.ok .next) s') :
    wpAny (model X.prog X.w) A (comprehension (.ListComp elt [⟨tg, iter, ifs, 0⟩] scope pos) scope env p' (newList []) false (eval iter env) use) Q NoE s := by
  unfold dComp at hd
  split at hd <;> try (cases hd; done)
  rename_i l hl
  split at hd <;> try (cases hd; done)
  rename_i hlen
  split at hd <;> try (cases hd; done)
  rename_i qs hqs
  cases hd
  refine wpAny_comprehension_free (g := ⟨tg, iter, ifs, 0⟩) (gs := []) rfl hs (closure_is (env := env) fun x hx hf => e.cellsAt x.1 (L.free x hx hf)) L.kind L.hnames ?_
  refine hsrc A env W ρ s l _ rm e hl fun it s₁ W₁ wr gs St r₁ Fd hst ow => ?_
  have e₁ := e.res r₁
  refine wpAny_newObj_type ?_ (by size_fits)
  refine wpAny_newFunctionEnv L.nocell (by intro y hy; simp at hy) (fun h₁ hns₁ hsb₁ => ?_) L.kind
  dsimp only at hns₁ hsb₁ ⊢
  generalize hH2 : s₁.heap.push { cls := .type "list", dict := none, data := .seq ([] : List Value).toArray } = H2 at hns₁ hsb₁ ⊢
  have hC : H2.objs.size = s₁.heap.objs.size + 1 := by rw [← hH2, Heap.size_push]
  have hCne : H2.objs.size ≠ s₁.heap.objs.size := by rw [hC]; exact Nat.succ_ne_self _
  have fresh₁ : ∀ a, s₁.heap.objs.size ≤ a → s₁.heap.get? a = none := fun a ha => by
    cases q : s₁.heap.get? a with
    | none => rfl
    | some o => exact absurd (Heap.lt_size q) (Nat.not_lt.mpr ha)
  have freshS : ∀ a, s₁.heap.objs.size ≤ a → s.heap.get? a = none := fun a ha => by
    cases q : s.heap.get? a with
    | none => rfl
    | some o => have := r₁.stp.keep a o q; rw [fresh₁ a ha] at this; cases this
  have freshW : ∀ a, s₁.heap.objs.size ≤ a → W₁ a = none := fun a ha => by
    cases q : W₁ a with
    | none => rfl
    | some o => have := r₁.good a o q; rw [fresh₁ a ha] at this; cases this
  have old : ∀ b o, s₁.heap.get? b = some o → h₁.get? b = some o := fun b o q => by
    have hb := Heap.lt_size q
    refine hsb₁.extBut b o (by rw [hC]; exact Nat.ne_of_lt (Nat.lt_succ_of_lt hb)) (Heap.get?_push_of_some _ ?_)
    rw [← hH2]; exact Heap.get?_push_of_some _ q
  have hacc : h₁.get? s₁.heap.objs.size = some (listObj [] 0) := by
    refine hsb₁.extBut _ _ hCne.symm (Heap.get?_push_of_some _ ?_)
    rw [← hH2]; exact Heap.get?_push_size _ rfl
  have r₂ : Res W₁ s₁ W₁ { s₁ with heap := h₁, toks := s₁.toks + ([] : List (Str × Value)).length } := .heap r₁.good old
  have hCle : s₁.heap.objs.size ≤ H2.objs.size := by rw [hC]; exact Nat.le_succ _
  have F := comp_frame (b := s) (W := W) (C := H2.objs.size) (h' := h₁) (tk := s₁.toks + ([] : List (Str × Value)).length) L e₁ (r₁.trans r₂) old hns₁ (freshS _ hCle) (freshW _ hCle)
  have hst₂ : St l W₁ { s₁ with heap := h₁, toks := s₁.toks + ([] : List (Str × Value)).length } := Fd.frame l W₁ W₁ s₁ _ hst r₁.good .refl (fun a _ o q => old a o q) (fun _ _ _ q => q) r₂.good
  have hnw : ∀ a ∈ wr, a < s₁.heap.objs.size := fun a ha => by
    obtain ⟨o, ho, _⟩ := ow.obj a ha
    exact Heap.lt_size ho
  have S : Sep s (compEnvC scope (clOf env scope.names []) H2.objs.size env) W₁ h₁ wr gs := ⟨fun hw => Nat.lt_irrefl _ (Nat.lt_of_lt_of_le (hnw _ hw) hCle), ow.new, ow.fz, fun a ha => by
    obtain ⟨o, ho, hf⟩ := ow.obj a ha
    exact ⟨o, old a o ho, hf⟩, ow.gs⟩
  have loop : ∀ s₃ : Shared, s₃ = { s₁ with heap := h₁, toks := s₁.toks + ([] : List (Str × Value)).length } →
      codeAny (model X.prog X.w) A (.compLoop (.ListComp elt [⟨tg, iter, ifs, 0⟩] scope pos) 0 it (.ref s₁.heap.objs.size) (compEnvC scope (clOf env scope.names []) H2.objs.size env)) (compPost (model X.prog X.w) A NoE use Q (.ref s₁.heap.objs.size) H2.objs.size) s₃ := by
    rintro s₃ rfl
    refine comp_loop rm Fd ht hu hc he F startC_noOwn hst₂ S ⟨⟨[], 0, hacc, .nil⟩, freshW _ (Nat.le_refl _), freshS _ (Nat.le_refl _)⟩ hCne.symm hqs (by simpa using Nat.le_of_ble_eq_true hlen) fun s₄ W₄ ρ₄ le₄ F₄ gx O₄ => ?_
    obtain ⟨vs, j, ho, hr⟩ := O₄.obj
    have leD := Fz.le_add (o := listObj vs j) O₄.fz
    have res : Res W s (W₄.add s₁.heap.objs.size (listObj vs j)) s₄ := ⟨F₄.res.le.trans leD, F₄.e.good.add ho, F₄.res.stp, fun a o q1 q2 => by
      by_cases ha : a = s₁.heap.objs.size
      · rw [ha]; exact O₄.new
      · rw [Fz.add_ne ha] at q1; exact F₄.res.news a o q1 q2⟩
    obtain ⟨m₄, hm₄⟩ := F₄.ns
    refine hQ _ _ s₄ _ res (.list Fz.add_self (hr.mono leD)) F₄.lnew ?_ ⟨m₄, hm₄⟩
    rw [Fz.add_ne hCne]; exact F₄.lfz
  refine codeAny_compStart_list (loop _ rfl) ?_
  refine wpAny_mono (Fd.self W₁ _ l _ (rm.le (Nat.zero_le _)) e₁.base r₂.good hst₂ (loop _ rfl)) (fun _ _ h => h) fun _ _ x => x.elim

/-- a block's dict goes -/
theorem Frm.gone {b : Shared} {Wb : Fz} {env : Env} {ρ : List Slot} {W : Fz} {s : Shared} {C : Addr} {mc : Str → Option Value} {h' : Heap} {tk : Nat} (F : Frm X b Wb env lay ρ W s) (hm' : s.heap.Ns C mc) (hb : b.heap.get? C = none) (hW : W C = none) (hl : env.locals ≠ C) (hs : Heap.SameBut C s.heap h') :
    Frm X b Wb env lay ρ W { s with heap := h', toks := tk } := by
  obtain ⟨m, hm⟩ := F.ns
  have nmK : ∀ (y : Str) (u : Value), NameIs env s.heap y u → NameIs env h' y u := fun y u hu => by
    rcases hu with ⟨e, m', hn', hv'⟩ | ⟨e, c, hc, hv'⟩
    · exact .inl ⟨e, m', hn'.sameBut hs hl, hv'⟩
    · exact .inr ⟨e, c, hc, hv'.sameBut hs (Ns_ne_cell hm' hv')⟩
  refine ⟨⟨(F.turn (tk := tk) hs hb hW).good, F.e.base, F.e.kind, F.e.glob, F.e.blt, F.e.names, F.e.cellsAt, fun i x p hx hp => ?_⟩, F.turn hs hb hW, ⟨m, hm.sameBut hs hl⟩, F.lnew, F.lfz, fun i x hi hx => ?_, F.apart, F.nodup, ?_⟩
  · obtain ⟨v, hv, hr'⟩ := F.e.slot i x p hx hp
    exact ⟨v, nmK x v hv, hr'⟩
  · rcases F.kinds i x hi hx with h | ⟨h, c, u, q1, q2, q3, q4⟩
    · exact .inl h
    · exact .inr ⟨h, c, u, q1, q2.sameBut hs (Ns_ne_cell hm' q2), q3, q4⟩
  · obtain ⟨f, hf, hf'⟩ := F.own
    refine ⟨f, fun i x l hx hl' => ?_, hf'⟩
    obtain ⟨q1, q2⟩ := hf i x l hx hl'
    obtain ⟨vs, j, ho, hr⟩ := q2.obj
    exact ⟨nmK x _ q1, ⟨⟨vs, j, (hs.2 _ (Ns_ne_list hm' ho)).trans ho, hr⟩, q2.fz, q2.new⟩⟩
theorem Res.gone {W W' : Fz} {s s' : Shared} {C : Addr} {h' : Heap} (r : Res W s W' s') (hb : s.heap.get? C = none) (hW : W' C = none) (hs : Heap.SameBut C s'.heap h') : Res W s W' { s' with heap := h' } :=
  ⟨r.le, fun a o e => by
    have : a ≠ C := fun q => by rw [q, hW] at e; cases e
    exact (hs.2 a this).trans (r.good a o e), ⟨fun a o e => by
    have : a ≠ C := fun q => by rw [q, hb] at e; cases e
    exact (hs.2 a this).trans (r.stp.keep a o e), r.stp.os, r.stp.gens, r.stp.bare⟩, r.news⟩

theorem e_comp {tg elt iter : Expr} {ifs : List Expr} {scope : Scope} {pos : Pos} {src : Dens} {upd : List Slot → PV → Option (List Slot)} {t : DenB} {d : Den} {caps : List Nat}
    (L : CompLay lay layc scope caps) (hsrc : SrcOk X n lay tg iter src) (ht : TgtOk X layc tg upd) (hu : UpdOk upd) (hc : CondOk X n layc ifs t) (he : EOk X n layc elt d) (hs : ∀ env x, foldedSetIterable iter env x = pure x := by intro _ _; rfl) :
    EOk X n lay (.ListComp elt [⟨tg, iter, ifs, 0⟩] scope pos) (dComp src layc.wr caps upd t d) := by
  intro A env W ρ s p Q rm e hd hQ
  rw [eval_ListComp]
  refine comp_run L hsrc ht hu hc he (hs env) rm e hd fun D C s' W' r rp hC hW ⟨m, hm⟩ => ?_
  exact ⟨m, hm, fun h' hs' => hQ _ _ W' (r.gone hC hW hs') rp⟩
theorem st_comp {x : Str} {px spos : Pos} {tg elt iter : Expr} {ifs : List Expr} {scope : Scope} {pos : Pos} {src : Dens} {upd : List Slot → PV → Option (List Slot)} {t : DenB} {d : Den} {caps : List Nat} (i : Nat) (hi : i < lay.wr) (hx : lay.slots[i]? = some x)
    (L : CompLay lay layc scope caps) (hsrc : SrcOk X n lay tg iter src) (ht : TgtOk X layc tg upd) (hu : UpdOk upd) (hc : CondOk X n layc ifs t) (he : EOk X n layc elt d)
    (hsw : ∀ env, env.scope.kind = .function → env.scope.names = lay.names → swapsWith (.ListComp elt [⟨tg, iter, ifs, 0⟩] scope pos) (some (.Name x px)) spos.line env = pure true) (hs : ∀ env x, foldedSetIterable iter env x = pure x := by intro _ _; rfl) :
    StOk X n lay (.Assign [.Name x px] (.ListComp elt [⟨tg, iter, ifs, 0⟩] scope pos) spos) (dSet i (dComp src layc.wr caps upd t d)) := by
  intro A env b Wb W ρ s f ρ' Q rm F hd hQ
  unfold dSet at hd
  split at hd <;> try (cases hd; done)
  rename_i p hp
  cases hd
  rw [exec_Assign_Name_used _ _ _ _ (hsw env F.e.kind F.e.names)]
  refine wpAny_bind (wpAny_standAt (wpAny_bind ?_))
  show wpAny _ A (do let _ ← comprehension (.ListComp elt [⟨tg, iter, ifs, 0⟩] scope pos) scope env _ (newList []) false (eval iter env) (some (assign (.Name x px) env))) _ _ s
  refine wpAny_bind (wpAny_mono (comp_run (Q := fun _ s' => Q .next s') L hsrc ht hu hc he (hs env) rm F.e hp fun D C s' W' r rp hC hW ⟨m, hm⟩ => ?_) (fun _ s' hq => wpAny_pure (wpAny_pure hq)) fun _ _ e => e)
  have F' := F.step r
  refine wpAny_assign_Name (F'.putK hi hx rp fun s₂ F₂ k₂ e₂ => ?_)
  have hlC : env.locals ≠ C := fun q => by
    obtain ⟨m', o, es, ep, ho, _⟩ := F.ns
    rw [q, hC] at ho; cases ho
  have hm₂ : s₂.heap.Ns C m := by
    obtain ⟨o, es, ep, ho, hd', r'⟩ := hm
    exact ⟨o, es, ep, e₂ C o ho hlC.symm (fun v q => by rw [hd'] at q; cases q), hd', r'⟩
  refine ⟨m, hm₂, fun h' hs' => ?_⟩
  have hbC : b.heap.get? C = none := by
    cases q : b.heap.get? C with
    | none => rfl
    | some o => have := F.res.stp.keep C o q; rw [hC] at this; cases this
  exact hQ .next _ W' r.le (F₂.gone (tk := s₂.toks) hm₂ hbC hW hlC hs') ((r.stp.gk.trans k₂).trans .heap) trivial
end
end Mine
end

section
open PySem PySem.W PySem.W.X PySem.W.ZRun PyProof.Rows
set_option Elab.async false
set_option autoImplicit false

namespace Mine
section
variable {X : Top0} {n : Nat} {lay layc : Lay}

noncomputable def emFor (ec : Expr) (iter : Expr) : Value → Env → Sem Unit := fun acc env => do
  let x ← eval iter env
  standAt iter.pos
  let x ← foldedSetIterable iter env x
  let _ ← runOwn (.compStart ec 1 (← holding [x] (pyIter x)) acc env) env
noncomputable def dInner (src : Dens) (upd : List Slot → PV → Option (List Slot)) (t : DenB) (d : DenE) : DenE := fun ρ => match src ρ with
  | some l => compG upd t d l ρ
  | none => none
theorem compStart1 {A : Around} {R : Result → Shared → Prop} {s : Shared} {elt tg iter tg' iter' : Expr} {ifs ifs' : List Expr} {scope : Scope} {pos : Pos} {it acc : Value} {env : Env}
    (h0 : codeAny (model X.prog X.w) A (.compLoop (.ListComp elt [⟨tg, iter, ifs, 0⟩, ⟨tg', iter', ifs', 0⟩] scope pos) 1 it acc env) R s)
    (h : wpAny (model X.prog X.w) A (pyIter it) (fun it' s' => codeAny (model X.prog X.w) A (.compLoop (.ListComp elt [⟨tg, iter, ifs, 0⟩, ⟨tg', iter', ifs', 0⟩] scope pos) 1 it' acc env) R s')
      (notedBy (model X.prog X.w) A env fun x s' => R (.error x) s') s) :
    codeAny (model X.prog X.w) A (.compStart (.ListComp elt [⟨tg, iter, ifs, 0⟩, ⟨tg', iter', ifs', 0⟩] scope pos) 1 it acc env) R s := by
  refine codeAny_of_tree ?_
  show wpAny _ _ ((compStart (.ListComp elt [⟨tg, iter, ifs, 0⟩, ⟨tg', iter', ifs', 0⟩] scope pos) 1 it acc env).onRaise (fun x => do noteFrame x env; standAt theWindowsPlace)) _ _ s
  refine wpAny_notedAt ?_
  unfold compStart
  show wpAny _ _ (ask >>= _) _ _ s
  refine wpAny_bind (wpAny_askSetting (wpAny_ite ?_))
  split
  · first
      | exact wpAny_bind (wpAny_pure (wpAny_pure (And.intro rfl h0)))
      | exact wpAny_pure (And.intro rfl h0)
  · first
      | exact wpAny_bind (wpAny_rule (wpAny_bind (wpAny_standAt (wpAny_bind (wpAny_mono h (fun it' s' h' => wpAny_pure (And.intro rfl h')) fun _ _ x => x)))))
      | (refine wpAny_bind (wpAny_rule ?_); show wpAny _ _ (standAt iter'.pos >>= _) _ _ s; exact wpAny_bind (wpAny_standAt (wpAny_bind (wpAny_mono h (fun it' s' h' => wpAny_pure (And.intro rfl h')) fun _ _ x => x))))
theorem em_for {elt tg iter tg' iter' : Expr} {ifs ifs' : List Expr} {scope : Scope} {pos : Pos} {src : Dens} {upd : List Slot → PV → Option (List Slot)} {t : DenB} {d : Den} (hsrc : SrcOk X n lay tg' iter' src) (ht : TgtOk X lay tg' upd) (hu : UpdOk upd) (hc : CondOk X n lay ifs' t) (he : EOk X n lay elt d)
    (hs : ∀ env x, foldedSetIterable iter' env x = pure x := by intro _ _; rfl) :
    EmitOk X n lay (emFor (.ListComp elt [⟨tg, iter, ifs, 0⟩, ⟨tg', iter', ifs', 0⟩] scope pos) iter') (dInner src upd t (dOne d)) := by
  intro A b Wb env W ρ ρ' s acc qs a Q rm F hn O hl hd hle hQ
  unfold dInner at hd
  split at hd <;> try (cases hd; done)
  rename_i l hl'
  unfold emFor
  refine wpAny_bind (wpAny_mono (hsrc A env W ρ s l (fun it s₂ => wpAny (model X.prog X.w) A (runOwn (.compStart (.ListComp elt [⟨tg, iter, ifs, 0⟩, ⟨tg', iter', ifs', 0⟩] scope pos) 1 it (.ref a) env) env) (fun _ s' => Q () s') NoE s₂) rm F.e hl' fun it s₁ W₁ wr gs St r₁ Fd hst ow => ?_) (fun x s₁ h₁ => ?_) fun _ _ x => x.elim)
  · have F₁ := F.step r₁
    have O₁ := O.res r₁
    have loop : codeAny (model X.prog X.w) A (.compLoop (.ListComp elt [⟨tg, iter, ifs, 0⟩, ⟨tg', iter', ifs', 0⟩] scope pos) 1 it (.ref a) env) (fun r s' => match r with | .ok _ => Q () s' | .error _ => False) s₁ := by
      refine comp_loopG (ipos := iter'.pos) (em := emApp elt) rfl rfl rfl rfl rm Fd ht hu hc (em_app he) F₁ hn hst (F.sep ow) O₁ hl hd hle fun s₂ W₂ le₂ F₂ hn₂ gx O₂ => ?_
      exact hQ s₂ W₂ (r₁.le.trans le₂) F₂ hn₂ ⟨gx.os.trans r₁.stp.os, fun g x e => gx.gens g x (fun hg => by rw [ow.gs g hg] at e; cases e) (r₁.stp.gens g x e), fun h => gx.bare (r₁.stp.bare h)⟩ O₂
    refine wpAny_runOwn (codeAny_mono (compStart1 loop (wpAny_mono (Fd.self W₁ _ l _ (rm.le (Nat.zero_le _)) F₁.e.base r₁.good hst loop) (fun _ _ h => h) fun _ _ x => x.elim)) fun r s' h => ?_)
    cases r with
    | ok f => exact h
    | error x => exact h.elim
  · refine wpAny_bind (wpAny_standAt (wpAny_bind ?_))
    rw [hs]
    refine wpAny_pure (wpAny_bind (wpAny_holding (wpAny_mono h₁ (fun it s₂ h₂ => wpAny_bind (wpAny_mono h₂ (fun _ s₃ h₃ => wpAny_pure h₃) fun _ _ x => x)) fun _ _ x => x)))

theorem compTurn_two (elt tg iter tg' iter' : Expr) (ifs ifs' : List Expr) (scope : Scope) (pos : Pos) (it acc : Value) (env : Env) :
    compTurn (.ListComp elt [⟨tg, iter, ifs, 0⟩, ⟨tg', iter', ifs', 0⟩] scope pos) 0 it acc env = (do
      standAt iter.pos
      match ← pyNext it with
      | none => pure (.done .next)
      | some v =>
        letOwnedTupleGo tg it v
        assign tg env v
        let mut ok := true
        for c in ifs do
          if ok then ok ← isTrue c env (eval c env)
        if ok then
          emFor (.ListComp elt [⟨tg, iter, ifs, 0⟩, ⟨tg', iter', ifs', 0⟩] scope pos) iter' acc env
        again (.compLoop (.ListComp elt [⟨tg, iter, ifs, 0⟩, ⟨tg', iter', ifs', 0⟩] scope pos) 0 it acc env)) := by
  simp only [emFor, bind_assoc, pure_bind]
  rfl
noncomputable def dComp2 (src : Dens) (k : Nat) (caps : List Nat) (upd : List Slot → PV → Option (List Slot)) (t : DenB) (d : DenE) : Den := fun ρ => match src ρ with
  | some l => match compG upd t d l (startC k caps ρ) with
    | some (qs, _) => match Nat.ble qs.length 16777216 with
      | true => some (.list qs)
      | false => none
    | none => none
  | none => none
theorem e_comp2 {tg elt iter tg' iter' : Expr} {ifs ifs' : List Expr} {scope : Scope} {pos : Pos} {src src' : Dens} {upd upd' : List Slot → PV → Option (List Slot)} {t t' : DenB} {d : Den} {caps : List Nat}
    (L : CompLay lay layc scope caps) (hsrc : SrcOk X n lay tg iter src) (ht : TgtOk X layc tg upd) (hu : UpdOk upd) (hc : CondOk X n layc ifs t)
    (hsrc' : SrcOk X n layc tg' iter' src') (ht' : TgtOk X layc tg' upd') (hu' : UpdOk upd') (hc' : CondOk X n layc ifs' t') (he : EOk X n layc elt d) (hs : ∀ env x, foldedSetIterable iter env x = pure x := by intro _ _; rfl)
    (hs' : ∀ env x, foldedSetIterable iter' env x = pure x := by intro _ _; rfl) :
    EOk X n lay (.ListComp elt [⟨tg, iter, ifs, 0⟩, ⟨tg', iter', ifs', 0⟩] scope pos) (dComp2 src layc.wr caps upd t (dInner src' upd' t' (dOne d))) := by
  intro A env W ρ s p Q rm e hd hQ
  rw [eval_ListComp]
  show wpAny _ A (comprehension (.ListComp elt [⟨tg, iter, ifs, 0⟩, ⟨tg', iter', ifs', 0⟩] scope pos) scope env _ (newList []) false (eval iter env)) _ _ s
  unfold dComp2 at hd
  split at hd <;> try (cases hd; done)
  rename_i l hl
  split at hd <;> try (cases hd; done)
  rename_i qs ρe hqs
  split at hd <;> try (cases hd; done)
  rename_i hlen
  cases hd
  refine wpAny_comprehension_free (g := ⟨tg, iter, ifs, 0⟩) (gs := [⟨tg', iter', ifs', 0⟩]) rfl (hs env) (closure_is (env := env) fun x hx hf => e.cellsAt x.1 (L.free x hx hf)) L.kind L.hnames ?_
  refine hsrc A env W ρ s l _ rm e hl fun it s₁ W₁ wr gs St r₁ Fd hst ow => ?_
  have e₁ := e.res r₁
  refine wpAny_newObj_type ?_ (by size_fits)
  refine wpAny_newFunctionEnv L.nocell (by intro y hy; simp at hy) (fun h₁ hns₁ hsb₁ => ?_) L.kind
  dsimp only at hns₁ hsb₁ ⊢
  generalize hH2 : s₁.heap.push { cls := .type "list", dict := none, data := .seq ([] : List Value).toArray } = H2 at hns₁ hsb₁ ⊢
  have hC : H2.objs.size = s₁.heap.objs.size + 1 := by rw [← hH2, Heap.size_push]
  have hCne : H2.objs.size ≠ s₁.heap.objs.size := by rw [hC]; exact Nat.succ_ne_self _
  have fresh₁ : ∀ a, s₁.heap.objs.size ≤ a → s₁.heap.get? a = none := fun a ha => by
    cases q : s₁.heap.get? a with
    | none => rfl
    | some o => exact absurd (Heap.lt_size q) (Nat.not_lt.mpr ha)
  have freshS : ∀ a, s₁.heap.objs.size ≤ a → s.heap.get? a = none := fun a ha => by
    cases q : s.heap.get? a with
    | none => rfl
    | some o => have := r₁.stp.keep a o q; rw [fresh₁ a ha] at this; cases this
  have freshW : ∀ a, s₁.heap.objs.size ≤ a → W₁ a = none := fun a ha => by
    cases q : W₁ a with
    | none => rfl
    | some o => have := r₁.good a o q; rw [fresh₁ a ha] at this; cases this
  have old : ∀ b o, s₁.heap.get? b = some o → h₁.get? b = some o := fun b o q => by
    have hb := Heap.lt_size q
    refine hsb₁.extBut b o (by rw [hC]; exact Nat.ne_of_lt (Nat.lt_succ_of_lt hb)) (Heap.get?_push_of_some _ ?_)
    rw [← hH2]; exact Heap.get?_push_of_some _ q
  have hacc : h₁.get? s₁.heap.objs.size = some (listObj [] 0) := by
    refine hsb₁.extBut _ _ hCne.symm (Heap.get?_push_of_some _ ?_)
    rw [← hH2]; exact Heap.get?_push_size _ rfl
  have r₂ : Res W₁ s₁ W₁ { s₁ with heap := h₁, toks := s₁.toks + ([] : List (Str × Value)).length } := .heap r₁.good old
  have hCle : s₁.heap.objs.size ≤ H2.objs.size := by rw [hC]; exact Nat.le_succ _
  have F := comp_frame (b := s) (W := W) (C := H2.objs.size) (h' := h₁) (tk := s₁.toks + ([] : List (Str × Value)).length) L e₁ (r₁.trans r₂) old hns₁ (freshS _ hCle) (freshW _ hCle)
  have hst₂ : St l W₁ { s₁ with heap := h₁, toks := s₁.toks + ([] : List (Str × Value)).length } := Fd.frame l W₁ W₁ s₁ _ hst r₁.good .refl (fun a _ o q => old a o q) (fun _ _ _ q => q) r₂.good
  have hnw : ∀ a ∈ wr, a < s₁.heap.objs.size := fun a ha => by
    obtain ⟨o, ho, _⟩ := ow.obj a ha
    exact Heap.lt_size ho
  have S : Sep s (compEnvC scope (clOf env scope.names []) H2.objs.size env) W₁ h₁ wr gs := ⟨fun hw => Nat.lt_irrefl _ (Nat.lt_of_lt_of_le (hnw _ hw) hCle), ow.new, ow.fz, fun a ha => by
    obtain ⟨o, ho, hf⟩ := ow.obj a ha
    exact ⟨o, old a o ho, hf⟩, ow.gs⟩
  have loop : ∀ s₃ : Shared, s₃ = { s₁ with heap := h₁, toks := s₁.toks + ([] : List (Str × Value)).length } →
      codeAny (model X.prog X.w) A (.compLoop (.ListComp elt [⟨tg, iter, ifs, 0⟩, ⟨tg', iter', ifs', 0⟩] scope pos) 0 it (.ref s₁.heap.objs.size) (compEnvC scope (clOf env scope.names []) H2.objs.size env)) (compPost (model X.prog X.w) A NoE none Q (.ref s₁.heap.objs.size) H2.objs.size) s₃ := by
    rintro s₃ rfl
    refine comp_loopG (ipos := iter.pos) (em := emFor (.ListComp elt [⟨tg, iter, ifs, 0⟩, ⟨tg', iter', ifs', 0⟩] scope pos) iter') rfl rfl rfl (compTurn_two ..) rm Fd ht hu hc (em_for hsrc' ht' hu' hc' he hs') F startC_noOwn hst₂ S ⟨⟨[], 0, hacc, .nil⟩, freshW _ (Nat.le_refl _), freshS _ (Nat.le_refl _)⟩ hCne.symm hqs (by simpa using Nat.le_of_ble_eq_true hlen) fun s₄ W₄ le₄ F₄ hn₄ gx O₄ => ?_
    obtain ⟨vs, j, ho, hr⟩ := O₄.obj
    have leD := Fz.le_add (o := listObj vs j) O₄.fz
    have res : Res W s (W₄.add s₁.heap.objs.size (listObj vs j)) s₄ := ⟨F₄.res.le.trans leD, F₄.e.good.add ho, F₄.res.stp, fun a o q1 q2 => by
      by_cases ha : a = s₁.heap.objs.size
      · rw [ha]; exact O₄.new
      · rw [Fz.add_ne ha] at q1; exact F₄.res.news a o q1 q2⟩
    obtain ⟨m₄, hm₄⟩ := F₄.ns
    refine ⟨m₄, hm₄, fun h' hs' => hQ _ _ _ (res.gone F₄.lnew ?_ hs') (.list Fz.add_self (hr.mono leD))⟩
    exact (Fz.add_ne hCne).trans F₄.lfz
  refine codeAny_compStart_list (loop _ rfl) ?_
  refine wpAny_mono (Fd.self W₁ _ l _ (rm.le (Nat.zero_le _)) e₁.base r₂.good hst₂ (loop _ rfl)) (fun _ _ h => h) fun _ _ x => x.elim
end
end Mine
end

section
open PySem PySem.W PySem.W.X PySem.W.ZRun PyProof.Rows
set_option Elab.async false
set_option autoImplicit false

namespace Mine

noncomputable def small (n : Nat) : Bool := Nat.ble n 16777216
theorem small_le {n : Nat} (h : small n = true) : n ≤ 16777216 := Nat.le_of_ble_eq_true h

noncomputable def intsOf : List PV → Option (List Int)
  | [] => some []
  | .int i :: l => match intsOf l with
    | some ns => some (i :: ns)
    | none => none
  | _ => none
theorem Reps.ints {W : Fz} {vs : List Value} {ps : List PV} {ns : List Int} (r : Reps W vs ps) (h : intsOf ps = some ns) : IntsAre vs ns := by
  refine r.ind (M := fun vs ps => ∀ ns, intsOf ps = some ns → IntsAre vs ns) (fun ns h => by cases h; exact .nil) (fun v p vs ps r _ ih ns h => ?_) ns h
  cases r <;> try (cases h; done)
  unfold intsOf at h
  cases e : intsOf ps with
  | none => rw [e] at h; cases h
  | some ns => rw [e] at h; cases h; exact .cons _ _ (ih _ e)
noncomputable def strsOf : List PV → Option (List Str)
  | [] => some []
  | .str i :: l => match strsOf l with
    | some ns => some (i :: ns)
    | none => none
  | _ => none
theorem Reps.strs {W : Fz} {vs : List Value} {ps : List PV} {ns : List Str} (r : Reps W vs ps) (h : strsOf ps = some ns) : StrsAre vs ns := by
  refine r.ind (M := fun vs ps => ∀ ns, strsOf ps = some ns → StrsAre vs ns) (fun ns h => by cases h; exact .nil) (fun v p vs ps r _ ih ns h => ?_) ns h
  cases r <;> try (cases h; done)
  unfold strsOf at h
  cases e : strsOf ps with
  | none => rw [e] at h; cases h
  | some ns => rw [e] at h; cases h; exact .cons _ _ (ih _ e)

section
variable {X : Top0} {n : Nat} {lay : Lay}

theorem Rep.listAt {W : Fz} {h : Heap} (g : Good W h) {v : Value} {l : List PV} (r : Rep W v (.list l)) : ∃ a vs, v = .ref a ∧ h.IsList a vs.toArray ∧ Reps W vs l := by
  cases r with
  | list e rs => exact ⟨_, _, rfl, ⟨_, g _ _ e, rfl, _, rfl⟩, rs⟩
theorem Rep.isStr {W : Fz} {v : Value} {x : Str} (r : Rep W v (.str x)) : ∃ t, v = .str x t := by cases r; exact ⟨_, rfl⟩
theorem Rep.isInt {W : Fz} {v : Value} {x : Int} (r : Rep W v (.int x)) : ∃ t, v = .int x t := by cases r; exact ⟨_, rfl⟩
theorem Rep.isFlt {W : Fz} {v : Value} {x : UInt64} (r : Rep W v (.flt x)) : ∃ t, v = .float x t := by cases r; exact ⟨_, rfl⟩
theorem Reps.one {W : Fz} {vs : List Value} {p : PV} (r : Reps W vs [p]) : ∃ v, vs = [v] ∧ Rep W v p := by
  cases r with
  | cons a b => cases b; exact ⟨_, rfl, a⟩
theorem Reps.two {W : Fz} {vs : List Value} {p q : PV} (r : Reps W vs [p, q]) : ∃ v u, vs = [v, u] ∧ Rep W v p ∧ Rep W u q := by
  cases r with
  | cons a b => obtain ⟨u, rfl, hu⟩ := b.one; exact ⟨_, u, rfl, a, hu⟩
theorem Reps.three {W : Fz} {vs : List Value} {p q o : PV} (r : Reps W vs [p, q, o]) : ∃ v u x, vs = [v, u, x] ∧ Rep W v p ∧ Rep W u q ∧ Rep W x o := by
  cases r with
  | cons a b => obtain ⟨u, x, rfl, hu, hx⟩ := b.two; exact ⟨_, u, x, rfl, a, hu, hx⟩

/- len -/
noncomputable def fLen : List PV → Option PV
  | [.list l] => match small l.length with
    | true => some (.int (Int.ofNat l.length))
    | false => none
  | [.str x] => match small x.length with
    | true => some (.int (Int.ofNat x.length))
    | false => none
  | _ => none
theorem c_len : CallOk X n (.builtin "len") fLen := by
  intro A W s vs ps r Q rm hb g rs hf hQ
  unfold fLen at hf
  split at hf
  · rename_i l
    split at hf <;> try (cases hf; done)
    rename_i hs
    cases hf
    obtain ⟨v, rfl, rv⟩ := rs.one
    obtain ⟨a, us, rfl, hl, ru⟩ := rv.listAt g
    have := small_le hs
    have hsz : us.toArray.size = l.length := by rw [List.size_toArray, ru.length]
    refine PyProof.Rows.len_list hl (by rw [hsz]; lia) ?_
    rw [hsz]
    exact hQ _ _ _ (.toks g _) (.int _ _)
  · rename_i x
    split at hf <;> try (cases hf; done)
    rename_i hs
    cases hf
    obtain ⟨v, rfl, rv⟩ := rs.one
    obtain ⟨t, rfl⟩ := rv.isStr
    have := small_le hs
    exact PySem.P.len_str (by lia) (hQ _ _ _ (.toks g _) (.int _ _))
  · cases hf

/- sum of ints -/
noncomputable def sumOk : List Int → Bool
  | [] => true
  | a :: l => Nat.blt a.natAbs 1099511627776 && sumOk l
theorem sumOk_fits : ∀ {l : List Int}, sumOk l = true → (∀ j, (l.getD j 0).natAbs < 1099511627776) ∧ ∀ j, ((l.take j).sum).natAbs ≤ l.length * 1099511627776
  | [], _ => ⟨fun j => by simp, fun j => by simp⟩
  | a :: l, h => by
    simp only [sumOk, Bool.and_eq_true] at h
    have ha := Nat.le_of_ble_eq_true h.1
    obtain ⟨h1, h2⟩ := sumOk_fits h.2
    refine ⟨fun j => ?_, fun j => ?_⟩
    · cases j with
      | zero => exact (show a.natAbs < 1099511627776 from ha)
      | succ j => simpa using h1 j
    · cases j with
      | zero => simp
      | succ j =>
        have := h2 j
        simp only [List.take_succ_cons, List.sum_cons, List.length_cons]
        omega
noncomputable def fSum : List PV → Option PV
  | [.list l] => match intsOf l with
    | some ns => match sumOk ns with
      | true => match Nat.ble ns.length 1000000 with
        | true => some (.int ns.sum)
        | false => none
      | false => none
    | none => none
  | _ => none
theorem c_sum : CallOk X n (.builtin "sum") fSum := by
  intro A W s vs ps r Q rm hb g rs hf hQ
  unfold fSum at hf
  split at hf <;> try (cases hf; done)
  rename_i l
  split at hf <;> try (cases hf; done)
  rename_i ns hns
  split at hf <;> try (cases hf; done)
  rename_i h1
  split at hf <;> try (cases hf; done)
  rename_i h2
  cases hf
  obtain ⟨v, rfl, rv⟩ := rs.one
  obtain ⟨a, us, rfl, hl, ru⟩ := rv.listAt g
  have hi := ru.ints hns
  obtain ⟨xs, e⟩ := hi.allInts.items
  have hn : ns = xs.toList.map (·.1) := by rw [← hi.numsOf, ← nums_intItems, ← e]
  rw [e] at hl
  obtain ⟨f1, f2⟩ := sumOk_fits h1
  have h2 := Nat.le_of_ble_eq_true h2
  refine sum_intList rm.handled hl (fun j hj => ?_) fun h' tk t' hk => ?_
  · have g1 := f1 j
    have g2 := f2 (j + 1)
    rw [numAt_eq, preSum_eq, ← hn]
    have : ns.length * 1099511627776 ≤ 1000000 * 1099511627776 := Nat.mul_le_mul_right _ h2
    unfold InLong
    omega
  · have hs : preSum (numAt xs) xs.size = ns.sum := by
      rw [preSum_eq, ← hn, List.take_of_length_le (by rw [hn, List.length_map, Array.length_toList]; exact Nat.le_refl _)]
    rw [hs]
    exact hQ _ _ _ (.heap g hk) (.int _ _)

/- int of a float -/
noncomputable def fInt : List PV → Option PV
  | [.flt x] => match Float64.isFinite x with
    | true => some (.int (Flt.toInt Float64.truncOf x))
    | false => none
  | _ => none
theorem c_int : CallOk X n (.type "int") fInt := by
  intro A W s vs ps r Q rm hb g rs hf hQ
  unfold fInt at hf
  split at hf <;> try (cases hf; done)
  rename_i x
  split at hf <;> try (cases hf; done)
  rename_i hx
  cases hf
  obtain ⟨v, rfl, rv⟩ := rs.one
  obtain ⟨t, rfl⟩ := rv.isFlt
  refine Flt.call_int_float3 rm.handled (fun h => ?_) (fun h => ?_) fun _ => hQ _ _ _ (.toks g _) (.int _ _)
  · exfalso
    unfold Float64.isNaN at h; unfold Float64.isFinite at hx
    cases hd : Float64.decode x <;> rw [hd] at h hx <;> simp at h hx
  · exfalso
    unfold Float64.isInf at h; unfold Float64.isFinite at hx
    cases hd : Float64.decode x <;> rw [hd] at h hx <;> simp at h hx

/- min, max -/
noncomputable def minL : Int → List Int → Int
  | a, [] => a
  | a, b :: l => match decide (b < a) with
    | true => minL b l
    | false => minL a l
theorem minL_is : ∀ {l : List Int} {a : Int}, minL a l ∈ a :: l ∧ ∀ b ∈ a :: l, minL a l ≤ b
  | [], a => by simp [minL]
  | b :: l, a => by
    unfold minL
    split
    · rename_i h
      have h := of_decide_eq_true h
      obtain ⟨h1, h2⟩ := minL_is (l := l) (a := b)
      refine ⟨List.mem_cons_of_mem _ h1, fun c hc => ?_⟩
      rcases List.mem_cons.mp hc with rfl | hc
      · have := h2 b (List.mem_cons_self ..); lia
      · exact h2 c hc
    · rename_i h
      have h := of_decide_eq_false h
      obtain ⟨h1, h2⟩ := minL_is (l := l) (a := a)
      refine ⟨?_, fun c hc => ?_⟩
      · rcases List.mem_cons.mp h1 with h1 | h1
        · rw [h1]; exact List.mem_cons_self ..
        · exact List.mem_cons_of_mem _ (List.mem_cons_of_mem _ h1)
      · rcases List.mem_cons.mp hc with rfl | hc
        · exact h2 _ (List.mem_cons_self ..)
        · rcases List.mem_cons.mp hc with rfl | hc
          · have := h2 a (List.mem_cons_self ..); lia
          · exact h2 c (List.mem_cons_of_mem _ hc)
noncomputable def ltF (a b : UInt64) : Bool := Float64.cmp a b == some .lt
noncomputable def pInt : PV → Option Int
  | .int a => some a
  | _ => none
noncomputable def pFlt : PV → Option UInt64
  | .flt a => some a
  | _ => none
theorem Rep.int_of {W : Fz} {v : Value} {p : PV} {a : Int} (r : Rep W v p) (h : pInt p = some a) : ∃ t, v = .int a t := by
  cases r <;> cases h
  exact ⟨_, rfl⟩
theorem Rep.flt_of {W : Fz} {v : Value} {p : PV} {a : UInt64} (r : Rep W v p) (h : pFlt p = some a) : ∃ t, v = .float a t := by
  cases r <;> cases h
  exact ⟨_, rfl⟩
/-- the one of three that two looks leave -/
noncomputable def sel3 {α : Type} (x y z : Bool) (a b c : α) : α := match x with
  | true => match y with
    | true => c
    | false => b
  | false => match z with
    | true => c
    | false => a
theorem pick3 {f : Nat → Nat → Bool} {a b c v : Value} (h : (#[a, b, c] : Array Value)[argBest f 2]? = some v) : v = sel3 (f 1 0) (f 2 1) (f 2 0) a b c := by
  have e : argBest f 2 = if f 2 (if f 1 0 then 1 else 0) then 2 else if f 1 0 then 1 else 0 := rfl
  rw [e] at h
  cases h1 : f 1 0 with
  | true =>
    rw [h1] at h
    cases h2 : f 2 1 with
    | true => rw [if_pos rfl, h2] at h; cases h; rfl
    | false => rw [if_pos rfl, h2] at h; cases h; rfl
  | false =>
    rw [h1] at h
    cases h2 : f 2 0 with
    | true => rw [if_neg Bool.false_ne_true, h2] at h; cases h; rfl
    | false => rw [if_neg Bool.false_ne_true, h2] at h; cases h; rfl
theorem sel3_rep {W : Fz} (x y z : Bool) (a b c : UInt64) (t t' t'' : Tok) : Rep W (sel3 x y z (.float a t) (.float b t') (.float c t'')) (.flt (sel3 x y z a b c)) := by
  cases x <;> cases y <;> cases z <;> exact .flt _ _
noncomputable def min1 : PV → Option PV
  | .list l => match intsOf l with
    | some (a :: ns) => some (.int (minL a ns))
    | _ => none
  | _ => none
noncomputable def min2 (p q : PV) : Option PV := match pInt p with
  | some a => match pInt q with
    | some b => match decide (b < a) with
      | true => some (.int b)
      | false => some (.int a)
    | none => none
  | none => none
noncomputable def flt3 (f : UInt64 → UInt64 → UInt64 → UInt64) (p q r : PV) : Option PV := match pFlt p with
  | some a => match pFlt q with
    | some b => match pFlt r with
      | some c => some (.flt (f a b c))
      | none => none
    | none => none
  | none => none
theorem flt3_is {f : UInt64 → UInt64 → UInt64 → UInt64} {p q r x : PV} (h : flt3 f p q r = some x) : ∃ a b c, pFlt p = some a ∧ pFlt q = some b ∧ pFlt r = some c ∧ x = .flt (f a b c) := by
  unfold flt3 at h
  cases e1 : pFlt p with
  | none => rw [e1] at h; cases h
  | some a =>
    rw [e1] at h
    cases e2 : pFlt q with
    | none => rw [e2] at h; cases h
    | some b =>
      rw [e2] at h
      cases e3 : pFlt r with
      | none => rw [e3] at h; cases h
      | some c => rw [e3] at h; cases h; exact ⟨a, b, c, rfl, rfl, rfl, rfl⟩
noncomputable def min3 : PV → PV → PV → Option PV := flt3 fun a b c => sel3 (ltF b a) (ltF c b) (ltF c a) a b c
noncomputable def fMin : List PV → Option PV
  | [p] => min1 p
  | [p, q] => min2 p q
  | [p, q, r] => min3 p q r
  | _ => none
theorem c_min_list {A : Around} {W : Fz} {s : Shared} {Q : Value → Shared → Prop} {r : PV} (rm : Room A n) (g : Good W s.heap) {v : Value} {p : PV} (rv : Rep W v p) (hf : min1 p = some r)
    (hQ : After W s r Q) : wpAny (model X.prog X.w) A (call (.builtin "min") [v]) Q NoE s := by
  cases rv <;> try (cases hf; done)
  rename_i b us m l e ru
  have hl : s.heap.IsList b us.toArray := ⟨_, g _ _ e, rfl, _, rfl⟩
  cases hns : intsOf l with
  | none => unfold min1 at hf; dsimp only at hf; rw [hns] at hf; cases hf
  | some l' =>
  cases l' with
  | nil => unfold min1 at hf; dsimp only at hf; rw [hns] at hf; cases hf
  | cons a ns =>
  unfold min1 at hf; dsimp only at hf; rw [hns] at hf; cases hf
  have hi := ru.ints hns
  obtain ⟨xs, e⟩ := hi.allInts.items
  have hn : a :: ns = xs.toList.map (·.1) := by rw [← hi.numsOf, ← nums_intItems, ← e]
  have hsz : 0 < xs.size := by
    have := congrArg List.length hn
    simp at this; lia
  rw [e] at hl
  refine min_intList rm.handled hl hsz fun v h' tk hv hk => ?_
  obtain ⟨t, rfl⟩ := intItems_at hv
  obtain ⟨g1, g2⟩ := argBest_lt (numAt xs) (xs.size - 1)
  obtain ⟨m1, m2⟩ := minL_is (l := ns) (a := a)
  have e1 : numAt xs (argBest (fun i j => decide (numAt xs i < numAt xs j)) (xs.size - 1)) = minL a ns := by
    have i1 : numAt xs (argBest (fun i j => decide (numAt xs i < numAt xs j)) (xs.size - 1)) ∈ a :: ns := by
      rw [numAt_eq, hn]; exact getD_mem (by rw [List.length_map, Array.length_toList]; omega)
    have i2 : numAt xs (argBest (fun i j => decide (numAt xs i < numAt xs j)) (xs.size - 1)) ≤ minL a ns := by
      rw [hn] at m1
      obtain ⟨j, hj, ej⟩ := mem_getD m1
      rw [List.length_map, Array.length_toList] at hj
      rw [← ej, ← numAt_eq]; exact g2 j (by lia)
    have := m2 _ i1
    lia
  rw [e1]
  exact hQ _ _ _ (.heap g hk) (.int _ _)
theorem c_min_flt {A : Around} {W : Fz} {s : Shared} {Q : Value → Shared → Prop} {r : PV} (rm : Room A n) (g : Good W s.heap) {v u x : Value} {p q o : PV} (rv : Rep W v p) (ru : Rep W u q) (rx : Rep W x o) (hf : min3 p q o = some r)
    (hQ : After W s r Q) : wpAny (model X.prog X.w) A (call (.builtin "min") [v, u, x]) Q NoE s := by
  obtain ⟨a, b, c, e1, e2, e3, rfl⟩ := flt3_is hf
  obtain ⟨t, rfl⟩ := rv.flt_of e1
  obtain ⟨t', rfl⟩ := ru.flt_of e2
  obtain ⟨t'', rfl⟩ := rx.flt_of e3
  have hT : (s.heap.push { cls := .type "tuple", data := .seq #[.float a t, .float b t', .float c t''] }).IsTuple s.heap.objs.size #[.float a t, .float b t', .float c t''] := ⟨_, Heap.get?_push_size _ rfl, rfl, 0, rfl⟩
  refine call_min_three (wpAny_pyIter_tuple hT ?_)
  have hsz : (s.heap.push { cls := .type "tuple", data := .seq #[.float a t, .float b t', .float c t''] }).objs.size = s.heap.objs.size + 1 := Heap.size_push ..
  refine ⟨_, [_, s.heap.objs.size], [_], _, _, _, _, rfl, Walks.tuple (A := A.in1) rm.handled _ s.heap.objs.size (by rw [hsz]; exact Nat.ne_of_lt (Nat.lt_succ_self _)) #[.float a t, .float b t', .float c t''],
    ⟨⟨_, Heap.get?_push_size _ rfl, rfl, rfl⟩, hT.push _⟩, fun d hd => ?_, by simp, Flt.cmpOf_lt #[.float a t, .float b t', .float c t''] (by intro v hv; simp at hv; rcases hv with rfl | rfl | rfl <;> exact .float _ _), fun v h' tk hP hk => ?_⟩
  · show d < ((s.heap.push _).push _).objs.size
    rw [Heap.size_push, hsz]
    rcases List.mem_cons.mp hd with rfl | hd
    · rw [hsz]; exact Nat.lt_succ_self _
    · rw [List.mem_singleton.mp hd]; exact Nat.lt_succ_of_lt (Nat.lt_succ_self _)
  · have hold : ∀ d o, s.heap.get? d = some o → h'.get? d = some o := fun d o e => by
      refine hk d o (fun hm => ?_) (Heap.get?_push_of_some _ (Heap.get?_push_of_some _ e))
      have e1 := List.mem_singleton.mp hm
      have := Heap.lt_size e; rw [e1, hsz] at this; exact Nat.lt_irrefl _ (Nat.lt_of_succ_lt this)
    rw [pick3 hP]
    exact hQ _ _ _ (.heap g hold) (sel3_rep (ltF b a) (ltF c b) (ltF c a) a b c t t' t'')
theorem c_min : CallOk X n (.builtin "min") fMin := by
  intro A W s vs ps r Q rm hb g rs hf hQ
  cases rs with
  | nil => cases hf
  | cons rv rs =>
  cases rs with
  | nil => exact c_min_list rm g rv hf hQ
  | cons ru rs =>
  cases rs with
  | nil =>
    rename_i v p u q
    change min2 p q = some r at hf
    unfold min2 at hf
    cases e1 : pInt p with
    | none => rw [e1] at hf; cases hf
    | some a =>
    cases e2 : pInt q with
    | none => rw [e1, e2] at hf; cases hf
    | some b =>
    rw [e1, e2] at hf
    dsimp only at hf
    obtain ⟨t, rfl⟩ := rv.int_of e1
    obtain ⟨t', rfl⟩ := ru.int_of e2
    refine min_two_ints rm.handled fun h' tk hk => ?_
    cases h : decide (b < a) with
    | true => rw [h] at hf; cases hf; rw [if_pos (of_decide_eq_true h)]; exact hQ _ _ _ (.heap g hk) (.int _ _)
    | false => rw [h] at hf; cases hf; rw [if_neg (of_decide_eq_false h)]; exact hQ _ _ _ (.heap g hk) (.int _ _)
  | cons rx rs =>
  cases rs with
  | nil => exact c_min_flt rm g rv ru rx hf hQ
  | cons _ _ => cases hf
end
end Mine
end

section
open PySem PySem.W PySem.W.X PySem.W.ZRun PyProof.Rows PySem.Builtin PySem.Builtin.Str
set_option Elab.async false
set_option autoImplicit false

set_option maxRecDepth 100000
namespace Mine
section
variable {X : Top0} {n : Nat} {lay : Lay}

/- texts -/
noncomputable def fJoin : List PV → Option PV
  | [.str x, .list l] => match strsOf l with
    | some ys => match Nat.ble ((ys.map (·.length)).sum + ys.length * x.length) 16777216 with
      | true => some (.str (Txt.join x ys))
      | false => none
    | none => none
  | _ => none
theorem c_join : CallOk X n (.builtin "str.join") fJoin := by
  intro A W s vs ps r Q rm hb g rs hf hQ
  unfold fJoin at hf
  split at hf <;> try (cases hf; done)
  rename_i x l
  split at hf <;> try (cases hf; done)
  rename_i ys hys
  split at hf <;> try (cases hf; done)
  rename_i hle
  cases hf
  obtain ⟨v, u, rfl, rv, ru⟩ := rs.two
  obtain ⟨t, rfl⟩ := rv.isStr
  obtain ⟨a, us, rfl, hl, ru⟩ := ru.listAt g
  exact PyProof.Rows.join_list hl (ru.strs hys) (Nat.le_of_ble_eq_true hle) fun t' k => hQ _ _ _ (.toks g _) (.str _ _)
noncomputable def fLstrip : List PV → Option PV
  | [.str x, .str y] => match small x.length with
    | true => some (.str (Txt.lstripChars x y))
    | false => none
  | _ => none
theorem c_lstrip : CallOk X n (.builtin "str.lstrip") fLstrip := by
  intro A W s vs ps r Q rm hb g rs hf hQ
  unfold fLstrip at hf
  split at hf <;> try (cases hf; done)
  rename_i x y
  split at hf <;> try (cases hf; done)
  rename_i hle
  cases hf
  obtain ⟨v, u, rfl, rv, ru⟩ := rs.two
  obtain ⟨t, rfl⟩ := rv.isStr
  obtain ⟨t', rfl⟩ := ru.isStr
  exact SC.lstripChars (fun t' k => hQ _ _ _ (.toks g _) (.str _ _)) (small_le hle)
noncomputable def fIdxS : List PV → Option PV
  | [.str x, .str y] => match Txt.find x y with
    | .ofNat k => some (.int (Int.ofNat k))
    | _ => none
  | _ => none
theorem c_idxS : CallOk X n (.builtin "str.index") fIdxS := by
  intro A W s vs ps r Q rm hb g rs hf hQ
  unfold fIdxS at hf
  split at hf <;> try (cases hf; done)
  rename_i x y
  split at hf <;> try (cases hf; done)
  rename_i k hk
  cases hf
  obtain ⟨v, u, rfl, rv, ru⟩ := rs.two
  obtain ⟨t, rfl⟩ := rv.isStr
  obtain ⟨t', rfl⟩ := ru.isStr
  refine index_or rm.handled (fun h => ?_) fun _ _ => by rw [hk]; exact hQ _ _ _ (.toks g _) (.int _ _)
  rw [hk] at h; cases h
theorem reps_strs {W : Fz} : ∀ l : List (Str × Tok), Reps W (strValues l) (l.map fun p => .str p.1)
  | [] => .nil
  | p :: l => .cons (.str _ _) (reps_strs l)
theorem new_list' {A : Around} {W : Fz} {s : Shared} {vs : List Value} {ps : List PV} {k : Nat} {Q : Value → Shared → Prop} (g : Good W s.heap) (r : Reps W vs ps)
    (hQ : After W s (.list ps) Q) : Q (.ref s.heap.objs.size) { s with heap := s.heap.push (listObj vs 0), toks := k } :=
  hQ _ _ _ (Res.new g _ rfl k) (.list Fz.add_self (r.mono (Fz.le_add g.size)))
noncomputable def fSplit : List PV → Option PV
  | [.str x, .str y] => match Nat.beq y.length 0 with
    | true => none
    | false => match small x.length with
      | true => match small (partsBetween x (occurrences x y 0 x.length (x.length + 1)) y.length).length with
        | true => some (.list ((Txt.split x y).map .str))
        | false => none
      | false => none
  | _ => none
theorem c_split : CallOk X n (.builtin "str.split") fSplit := by
  intro A W s vs ps r Q rm hb g rs hf hQ
  unfold fSplit at hf
  split at hf <;> try (cases hf; done)
  rename_i x y
  split at hf <;> try (cases hf; done)
  rename_i hy
  split at hf <;> try (cases hf; done)
  rename_i hx
  split at hf <;> try (cases hf; done)
  rename_i hp
  cases hf
  obtain ⟨v, u, rfl, rv, ru⟩ := rs.two
  obtain ⟨t, rfl⟩ := rv.isStr
  obtain ⟨t', rfl⟩ := ru.isStr
  have hy : (y.length == 0) = false := by
    cases e : y.length with
    | zero => rw [e] at hy; cases hy
    | succ k => rfl
  have key : ∀ (l : List (Str × Tok)) (k : Nat), l.map (·.1) = Txt.split x y → Q (.ref s.heap.objs.size) { s with heap := s.heap.push (listObj (strValues l) 0), toks := k } := fun l k e => by
    refine new_list' (W := W) (A := A) g (reps_strs l) ?_
    have : (l.map fun p => PV.str p.1) = (Txt.split x y).map .str := by rw [← e, List.map_map]; rfl
    rw [this]; exact hQ
  cases h1 : (decide (x.length < y.length) || decide (Builtin.Str.strKind x < Builtin.Str.strKind y))
  · cases hf : (occurrences x y 0 x.length (x.length + 1)).isEmpty
    · refine call_meets F.slot_str_split (typeIs_str _ _ _) F.entry_str_split (F.args_str_split_2 _ _) (meets_str_split_sep x y t t' h1 hy hf (small_le hx) (small_le hp)) ?_
      show wants Q _ _ { s with toks := _, heap := s.heap.push { cls := .type "list", data := .seq (strsFrom s.toks (partsBetween x (occurrences x y 0 x.length (x.length + 1)) y.length)).toArray } }
      rw [strsFrom_eq]
      exact key (numbered s.toks _) _ ((numbered_texts _ _).trans ((if_neg (ne_true_of_eq_false h1)).trans (if_neg (ne_true_of_eq_false hf))).symm)
    · exact call_meets F.slot_str_split (typeIs_str _ _ _) F.entry_str_split (F.args_str_split_2 _ _) (meets_str_split_not_found x y t t' h1 hy hf)
        (key [(x, t)] s.toks ((if_neg (ne_true_of_eq_false h1)).trans (if_pos hf)).symm)
  · exact call_meets F.slot_str_split (typeIs_str _ _ _) F.entry_str_split (F.args_str_split_2 _ _) (meets_str_split_cannot_occur x y t t' h1)
      (key [(x, t)] s.toks (if_pos h1).symm)

/- lists -/
noncomputable def fIdxL : List PV → Option PV
  | [.list l, .int k] => match intsOf l with
    | some ns => match ns.contains k with
      | true => match PyData.layable0 (.list (ns.map .int)) with
        | true => some (.int (Int.ofNat (ns.idxOf k)))
        | false => none
      | false => none
    | none => none
  | _ => none
theorem c_idxL : CallOk X n (.builtin "list.index") fIdxL := by
  intro A W s vs ps r Q rm hb g rs hf hQ
  unfold fIdxL at hf
  split at hf <;> try (cases hf; done)
  rename_i l k
  split at hf <;> try (cases hf; done)
  rename_i ns hns
  split at hf <;> try (cases hf; done)
  rename_i hc
  split at hf <;> try (cases hf; done)
  rename_i hlay
  cases hf
  obtain ⟨v, u, rfl, rv, ru⟩ := rs.two
  obtain ⟨a, us, rfl, hl, rv⟩ := rv.listAt g
  obtain ⟨t, rfl⟩ := ru.isInt
  exact index_list_ints hl (rv.ints hns) hlay (List.contains_iff_mem.mp hc) (hQ _ _ _ (.toks g _) (.int _ _))
noncomputable def fCntL : List PV → Option PV
  | [.list l, .str k] => match strsOf l with
    | some ys => some (.int (Spec.countIn (.str k) (ys.map PyData.str)))
    | none => none
  | _ => none
theorem c_cntL : CallOk X n (.builtin "list.count") fCntL := by
  intro A W s vs ps r Q rm hb g rs hf hQ
  unfold fCntL at hf
  split at hf <;> try (cases hf; done)
  rename_i l k
  split at hf <;> try (cases hf; done)
  rename_i ys hys
  cases hf
  obtain ⟨v, u, rfl, rv, ru⟩ := rs.two
  obtain ⟨a, us, rfl, hl, rv⟩ := rv.listAt g
  obtain ⟨t, rfl⟩ := ru.isStr
  exact count_list_strs hl (rv.strs hys) (hQ _ _ _ (.toks g _) (.int _ _))

/- a dict's get -/
noncomputable def fGet : List PV → Option PV
  | [.dict D, .int i, .str z] => match (Spec.lookup (.int i) D).getD (.str z) with
    | .str y => some (.str y)
    | _ => none
  | _ => none
theorem Rep.dictAt {W : Fz} {h : Heap} (g : Good W h) {v : Value} {D : List (PyData × PyData)} (r : Rep W v (.dict D)) : ∃ a, v = .ref a ∧ IntTab X.prog X.w h a D := by
  cases r with
  | dict e h1 h2 =>
    obtain ⟨_, kvs, h3, h4⟩ := h2
    exact ⟨_, rfl, TabAt.ofObj h1 (g _ _ e) (h3 X.prog X.w) h4⟩
theorem c_get : CallOk X n (.builtin "dict.get") fGet := by
  intro A W s vs ps r Q rm hb g rs hf hQ
  unfold fGet at hf
  split at hf <;> try (cases hf; done)
  rename_i D i z
  split at hf <;> try (cases hf; done)
  rename_i y hy
  cases hf
  obtain ⟨v, u, x, rfl, rv, ru, rx⟩ := rs.three
  obtain ⟨a, rfl, T⟩ := rv.dictAt (X := X) g
  obtain ⟨t, rfl⟩ := ru.isInt
  obtain ⟨t', rfl⟩ := rx.isStr
  refine call_get2_intTab T (PyProof.V.Flat.str z t') fun v hv => ?_
  rw [hy] at hv
  obtain ⟨t, rfl⟩ := hv.str_inv
  exact hQ _ _ _ (.toks g _) (.str _ _)

/- how a method is found -/
noncomputable def isS : PV → Bool
  | .str _ => true
  | _ => false
noncomputable def isL : PV → Bool
  | .list _ => true
  | _ => false
noncomputable def isD : PV → Bool
  | .dict _ => true
  | _ => false
theorem g_join : GetOk X (Str.ofString "join") "str.join" isS := by
  intro A W s v p pl Q g rv hd hQ
  cases rv <;> simp only [isS] at hd <;> try (cases hd; done)
  exact GM.join hQ
theorem g_lstrip : GetOk X (Str.ofString "lstrip") "str.lstrip" isS := by
  intro A W s v p pl Q g rv hd hQ
  cases rv <;> simp only [isS] at hd <;> try (cases hd; done)
  exact GM.lstrip hQ
theorem g_split : GetOk X (Str.ofString "split") "str.split" isS := by
  intro A W s v p pl Q g rv hd hQ
  cases rv <;> simp only [isS] at hd <;> try (cases hd; done)
  exact GM.split hQ
theorem g_idxS : GetOk X (Str.ofString "index") "str.index" isS := by
  intro A W s v p pl Q g rv hd hQ
  cases rv <;> simp only [isS] at hd <;> try (cases hd; done)
  exact GM.index hQ
theorem list_method {A : Around} {W : Fz} {s : Shared} {v : Value} {p : PV} {name : Str} {id : String} {pl : Sem Bool} {Q : Value × List Value → Shared → Prop} (g : Good W s.heap) (rv : Rep W v p) (hd : isL p = true)
    (slot : PySem.Slot "list" name id) (hty : typeOf (.builtin id) = pure (.type "method_descriptor")) (hQ : Q (.builtin id, [v]) s) : wpAny (model X.prog X.w) A (getMethod v name pl) Q NoE s := by
  cases rv <;> simp only [isL] at hd <;> try (cases hd; done)
  rename_i a vs k ps e rs
  exact getMethod_builtin ⟨_, g _ _ e, rfl⟩ PySem.F.plainAttrs_list slot hty (fun b eb => by cases eb; exact ⟨_, g _ _ e, rfl⟩) hQ
theorem g_idxL : GetOk X (Str.ofString "index") "list.index" isL := by
  intro A W s v p pl Q g rv hd hQ
  exact list_method g rv hd PySem.F.slot_list_index PySem.F.type_list_index hQ
theorem g_cntL : GetOk X (Str.ofString "count") "list.count" isL := by
  intro A W s v p pl Q g rv hd hQ
  exact list_method g rv hd PySem.F.slot_list_count PySem.F.type_list_count hQ
theorem g_get : GetOk X (Str.ofString "get") "dict.get" isD := by
  intro A W s v p pl Q g rv hd hQ
  cases p <;> simp only [isD] at hd <;> try (cases hd; done)
  obtain ⟨a, rfl, T⟩ := rv.dictAt (X := X) g
  exact getMethod_intTab_get T hQ

/- - of an int -/
noncomputable def dNeg (d : Den) : Den := fun ρ => match d ρ with
  | some (.int i) => some (.int (-i))
  | _ => none
theorem e_neg {e : Expr} {pos : Pos} {d : Den} (h : EOk X n lay e d) : EOk X n lay (.UnaryOp .USub e pos) (dNeg d) := by
  intro A env W ρ s p Q rm eo hd hQ
  unfold dNeg at hd
  split at hd <;> try (cases hd; done)
  rename_i i hi
  cases hd
  refine UnaryOp_ (h A env W ρ s _ _ rm eo hi fun v s₁ W₁ r₁ p₁ => ?_)
  obtain ⟨t, rfl⟩ := p₁.isInt
  exact PyProof.Rows.neg_int (hQ _ _ _ (r₁.trans (.toks r₁.good _)) (.int _ _))
end
end Mine
end

section
open PySem PySem.W PySem.W.X PySem.W.ZRun PyProof.Rows PySem.Builtin PySem.Builtin.Str
set_option Elab.async false
set_option autoImplicit false
set_option maxRecDepth 100000
namespace Mine
noncomputable def gtPair (x y c d : Int) : Bool := match decide (x = c) with
  | true => decide (d < y)
  | false => decide (c < x)
section
variable {prog : Program} {w : World} {A : Around} {E : Value → Shared → Prop} {s : Shared}
theorem gt_ints {x c : Int} {t u : Tok} {Q : Value → Shared → Prop} (h : Q (.bool (decide (c < x))) s) : wpAny (model prog w) A (richCompare .Gt (.int x t) (.int c u)) Q E s :=
  Flt.gt_num (.int _ _) (.int _ _) h
theorem tuple_gt_tree {a b : Addr} {na nb : Nat} {x y c d : Int} {t1 t2 t3 t4 : Tok} {P : PySem.Fin → Shared → Prop} (ha : s.heap.get? a = some { cls := .type "tuple", data := .seq #[.int x t1, .int y t2] na })
    (hb : s.heap.get? b = some { cls := .type "tuple", data := .seq #[.int c t3, .int d t4] nb }) (h : P (.done (.ret (.bool (gtPair x y c d)))) s) :
    wpAny (model prog w) A (Builtin.«tuple.__gt__» ⟨[.ref a, .ref b], []⟩) P E s := by
  show wpAny _ _ (isInstance (.ref b) (.type "tuple") >>= _) _ _ s
  refine wpAny_bind (wpAny_isInstance (T := "tuple") ⟨_, hb, rfl⟩ isSubtype_tuple_tuple ?_)
  simp only [Bool.not_true, Bool.false_eq_true, if_false]
  refine wpAny_bind (wpAny_tupleItemsOf ha rfl ?_)
  refine wpAny_bind (wpAny_tupleItemsOf hb rfl ?_)
  refine wpAny_bind ?_
  simp only [List.zip_cons_cons, List.zip_nil_right, List.forIn_cons, List.forIn_nil]
  have he : ∀ (u v : Int) (t t' : Tok) (Q : Bool → Shared → Prop), Q (decide (u = v)) s → wpAny (model prog w) A (eqBool (.int u t) (.int v t')) Q E s := fun u v t t' Q hq =>
    (intKind prog w).eqBool (a := u) (b := v) (by simp [intKind, Value.isInt]) (by simp [intKind, Value.isInt]) hq
  unfold gtPair at h
  refine wpAny_bind (wpAny_bind (he x c t1 t3 _ ?_))
  cases h1 : decide (x = c) with
  | false =>
    rw [h1] at h
    simp only [Bool.not_false, if_true]
    refine wpAny_bind (wpAny_rule (wpAny_bind (gt_ints ?_)))
    exact wpAny_bind (wpAny_pure (wpAny_pure (wpAny_pure (wpAny_pure h))))
  | true =>
    rw [h1] at h
    simp only [Bool.not_true, Bool.false_eq_true, if_false]
    refine wpAny_pure ?_
    refine wpAny_bind (wpAny_bind (he y d t2 t4 _ ?_))
    cases h2 : decide (y = d) with
    | false =>
      simp only [Bool.not_false, if_true]
      refine wpAny_bind (wpAny_rule (wpAny_bind (gt_ints ?_)))
      exact wpAny_bind (wpAny_pure (wpAny_pure (wpAny_pure (wpAny_pure h))))
    | true =>
      simp only [Bool.not_true, Bool.false_eq_true, if_false]
      refine wpAny_pure (wpAny_pure ?_)
      have hyd := of_decide_eq_true h2
      subst hyd
      have e : decide (y < y) = false := by simp
      rw [e] at h
      exact wpAny_pure h
theorem gt_pairs {a b : Addr} {na nb : Nat} {x y c d : Int} {t1 t2 t3 t4 : Tok} {Q : Value → Shared → Prop} (hu : A.units < cLine) (ha : s.heap.get? a = some { cls := .type "tuple", data := .seq #[.int x t1, .int y t2] na })
    (hb : s.heap.get? b = some { cls := .type "tuple", data := .seq #[.int c t3, .int d t4] nb }) (h : Q (.bool (gtPair x y c d)) s) :
    wpAny (model prog w) A (richCompare .Gt (.ref a) (.ref b)) Q E s :=
  wpAny_richCompare_same_room (op := .Gt) (T := "tuple") ⟨_, ha, rfl⟩ ⟨_, hb, rfl⟩ F.slot_tuple_gt
    (wpAny_call_entry F.slot_tuple_gt (T := "tuple") ⟨_, ha, rfl⟩ F.entry_tuple_gt (tuple_gt_tree ha hb ⟨_, rfl, (fun e => nomatch e), h⟩) (F.args_tuple_gt_2 _ _)) hu
end

section
variable {X : Top0} {n : Nat} {lay : Lay}

/-- the greatest of pairs: the first among equals -/
noncomputable def maxP : (Int × Int) → List (Int × Int) → Int × Int
  | a, [] => a
  | a, b :: l => match gtPair b.1 b.2 a.1 a.2 with
    | true => maxP b l
    | false => maxP a l
noncomputable def pairOf : PV → Option (Int × Int)
  | .tup [.int a, .int b] => some (a, b)
  | _ => none
noncomputable def pairsOf : List PV → Option (List (Int × Int))
  | [] => some []
  | p :: l => match pairOf p with
    | some a => match pairsOf l with
      | some as => some (a :: as)
      | none => none
    | none => none
/-- a pair that lies frozen -/
noncomputable def PairAt (W : Fz) (v : Value) (p : Int × Int) : Prop := ∃ a m t u, v = .ref a ∧ W a = some { cls := .type "tuple", data := .seq #[.int p.1 t, .int p.2 u] m }
theorem Rep.pair {W : Fz} {v : Value} {q : PV} {p : Int × Int} (r : Rep W v q) (h : pairOf q = some p) : PairAt W v p := by
  unfold pairOf at h
  split at h <;> try (cases h; done)
  cases h
  cases r with
  | tup e rs =>
    obtain ⟨v, u, rfl, rv, ru⟩ := rs.two
    obtain ⟨t, rfl⟩ := rv.isInt
    obtain ⟨t', rfl⟩ := ru.isInt
    exact ⟨_, _, t, t', rfl, e⟩
theorem PairAt.rep {W : Fz} {v : Value} {p : Int × Int} (h : PairAt W v p) : Rep W v (.tup [.int p.1, .int p.2]) := by
  obtain ⟨a, m, t, u, rfl, e⟩ := h
  exact .tup (vs := [.int p.1 t, .int p.2 u]) e (.cons (.int _ _) (.cons (.int _ _) .nil))
theorem Reps.pairs {W : Fz} {vs : List Value} {ps : List PV} {as : List (Int × Int)} (r : Reps W vs ps) (h : pairsOf ps = some as) : ∀ (i : Nat) (v : Value), vs[i]? = some v → ∃ p, as[i]? = some p ∧ PairAt W v p := by
  refine r.ind (M := fun vs ps => ∀ as, pairsOf ps = some as → ∀ (i : Nat) (v : Value), vs[i]? = some v → ∃ p, as[i]? = some p ∧ PairAt W v p) (fun as _ i v h => by simp at h) (fun v p vs ps r _ ih as h => ?_) as h
  unfold pairsOf at h
  cases ea : pairOf p with
  | none => rw [ea] at h; cases h
  | some a =>
    rw [ea] at h
    cases e : pairsOf ps with
    | none => rw [e] at h; cases h
    | some as =>
      rw [e] at h; cases h
      intro i u hu
      cases i with
      | zero => cases hu; exact ⟨a, rfl, r.pair ea⟩
      | succ i => exact ih _ e i u hu
theorem gt_at {A : Around} {s : Shared} {W : Fz} {v u : Value} {p q : Int × Int} {Q : Value → Shared → Prop} {E : Value → Shared → Prop} (hu : A.units < cLine) (g : Good W s.heap) (hv : PairAt W v p) (hw : PairAt W u q) (h : Q (.bool (gtPair p.1 p.2 q.1 q.2)) s) :
    wpAny (model X.prog X.w) A (richCompare .Gt v u) Q E s := by
  obtain ⟨a, m, t, t', rfl, e⟩ := hv
  obtain ⟨b, m', t2, t3, rfl, e'⟩ := hw
  exact gt_pairs hu (g _ _ e) (g _ _ e') h

theorem max_turns {A : Around} {R : Result → Shared → Prop} {W : Fz} {I l S : Addr} {vs : List Value} {as : List (Int × Int)} (hh : A.handled = none) (hu : A.units + 100 < cLine) (hlI : l ≠ I) (hSI : S ≠ I) (hSl : S ≠ l) (hIW : W I = none) (hSW : W S = none)
    (hat : ∀ (i : Nat) (v : Value), vs[i]? = some v → ∃ p, as[i]? = some p ∧ PairAt W v p) (hlen : vs.length = as.length) :
    ∀ (rest : List (Int × Int)) (j : Nat) (s : Shared) (vb : Value) (best : Int × Int) (c : Nat), rest = as.drop j → Good W s.heap → s.heap.IsListIter I l j → s.heap.IsList l vs.toArray → PairAt W vb best →
    s.heap.get? S = some { cls := .type "list", dict := none, data := .seq #[vb, vb] c, slots := #[] } →
    (∀ v h' tk, PairAt W v (maxP best rest) → (∀ b o, b ≠ I → b ≠ S → s.heap.get? b = some o → h'.get? b = some o) → R (.ok (.ret v)) { s with heap := h', toks := tk }) →
    codeAny (model X.prog X.w) A (.builtin "max.loop" ⟨[.ref I, .none, .ref S], []⟩) R s := by
  have Wk := Walks.list (prog := X.prog) (w := X.w) (A := A.in1) hh I l hlI vs.toArray
  have hname : (toString "max" ++ toString ".loop" : String) = "max.loop" := by decide
  have hSw : S ∉ [I] := fun h => hSI (List.mem_singleton.mp h)
  intro rest
  induction rest with
  | nil =>
    intro j s vb best c hr g hit hl hb hS hR
    refine codeAny_builtin F.entry_max_loop ?_
    rw [Around.under_plainId F.plain_max_loop _]
    show wpAny _ A.in1 (seqItems? (.ref S) >>= _) _ _ s
    refine wpAny_bind (wpAny_seqItems hS rfl ?_)
    show wpAny _ A.in1 (tryCatch (pyNext (.ref I)) _ >>= _) _ _ s
    have hj : vs.toArray.size ≤ j := by
      have := congrArg List.length hr
      simp at this
      rw [List.size_toArray, hlen]; lia
    refine wpAny_bind (wpAny_tryCatch (wpAny_pyNext_list_end hh hit hl (by simpa using hj) fun h' he => ?_))
    have hS' := he S _ hSI hS
    show wpAny _ A.in1 (updateSeq S (fun _ => #[]) >>= _) _ _ _
    refine wpAny_bind (wpAny_updateSeq hS' rfl (wpAny_bind (wpAny_letGo (wpAny_pure ?_))))
    exact hR vb _ s.toks hb fun b o h1 h2 e => (Heap.get?_update_other _ _ (Ne.symm h2)).trans (he b o h1 e)
  | cons p rest ih =>
    intro j s vb best c hr g hit hl hb hS hR
    have hjl : j < as.length := by
      have := congrArg List.length hr
      simp at this; omega
    have hd : as.drop j = as[j] :: as.drop (j + 1) := List.drop_eq_getElem_cons hjl
    rw [hd] at hr
    injection hr with hp hr
    refine codeAny_builtin F.entry_max_loop ?_
    rw [Around.under_plainId F.plain_max_loop _]
    show wpAny _ A.in1 (seqItems? (.ref S) >>= _) _ _ s
    refine wpAny_bind (wpAny_seqItems hS rfl ?_)
    show wpAny _ A.in1 (tryCatch (pyNext (.ref I)) _ >>= _) _ _ s
    have hjv : j < vs.length := by lia
    refine wpAny_bind (wpAny_tryCatch (wpAny_pyNext_list_item hit hl (x := vs[j]) (by simp [hjv]) fun h' hit' hs' => ?_))
    have hS' : h'.get? S = _ := (hs'.2 S hSI).trans hS
    have g' : Good W h' := fun a o e => by
      have : a ≠ I := fun q => by rw [q, hIW] at e; cases e
      exact (hs'.2 a this).trans (g a o e)
    obtain ⟨q, hq, hpv⟩ := hat j vs[j] (by simp [hjv])
    have hqp : q = p := by rw [List.getElem?_eq_getElem hjl] at hq; cases hq; exact hp.symm
    subst hqp
    have hl' : h'.IsList l vs.toArray := hl.extBut hs'.extBut hlI
    show wpAny _ A.in1 (tryCatch (holding [vs[j], vs[j]] (richCompare .Gt vs[j] vb >>= _)) _ >>= _) _ _ _
    refine wpAny_bind (wpAny_tryCatch (wpAny_holding (wpAny_bind (gt_at (W := W) (by show A.units + 1 < _; lia) g' hpv hb ?_))))
    refine wpAny_bind (wpAny_holding (wpAny_truthy_bool ?_))
    refine wpAny_bind (wpAny_letGo (wpAny_pure ?_))
    simp only [maxP] at hR
    cases hbt : gtPair q.1 q.2 best.1 best.2 with
    | true =>
      rw [hbt] at hR
      simp only [if_true]
      refine wpAny_bind ?_
      refine wpAny_updateSeq hS' rfl (wpAny_bind (wpAny_letGo ?_))
      rw [hname]
      refine wpAny_pure ⟨plainId_quiet F.plain_max_loop _, ih (j + 1) _ vs[j] q _ hr (fun a o e => ?_) ?_ ?_ hpv (Heap.get?_update_self _ hS' rfl) fun v h'' tk hP hk => hR v h'' tk hP fun b o h1 h2 e => ?_⟩
      · have : a ≠ S := fun q => by rw [q, hSW] at e; cases e
        exact (Heap.get?_update_other _ _ (Ne.symm this)).trans (g' a o e)
      · obtain ⟨o, ho, r⟩ := hit'
        exact ⟨o, (Heap.get?_update_other _ _ hSI).trans ho, r⟩
      · obtain ⟨o, ho, r⟩ := hl'
        exact ⟨o, (Heap.get?_update_other _ _ hSl).trans ho, r⟩
      · exact hk b o h1 h2 ((Heap.get?_update_other _ _ (Ne.symm h2)).trans ((hs'.2 b h1).trans e))
    | false =>
      rw [hbt] at hR
      simp only [Bool.false_eq_true, if_false]
      refine wpAny_bind (wpAny_letGo ?_)
      rw [hname]
      refine wpAny_pure ⟨plainId_quiet F.plain_max_loop _, ih (j + 1) _ vb best c hr g' hit' hl' hb hS' fun v h'' tk hP hk => hR v h'' tk hP fun b o h1 h2 e => ?_⟩
      exact hk b o h1 h2 ((hs'.2 b h1).trans e)

noncomputable def max1 : PV → Option PV
  | .list l => match pairsOf l with
    | some (a :: as) => match maxP a as with
      | (x, y) => some (.tup [.int x, .int y])
    | _ => none
  | _ => none
noncomputable def max3 : PV → PV → PV → Option PV := flt3 fun a b c => sel3 (ltF a b) (ltF b c) (ltF a c) a b c
noncomputable def fMax : List PV → Option PV
  | [p] => max1 p
  | [p, q, r] => max3 p q r
  | _ => none
theorem pairs_len : ∀ (l : List PV) (ps : List (Int × Int)), pairsOf l = some ps → l.length = ps.length := by
  intro l
  induction l with
  | nil => intro ps h; cases h; rfl
  | cons q l ih =>
    intro ps h
    unfold pairsOf at h
    cases e1 : pairOf q with
    | none => rw [e1] at h; cases h
    | some a =>
    cases e2 : pairsOf l with
    | none => rw [e1, e2] at h; cases h
    | some qs => rw [e1, e2] at h; cases h; exact congrArg Nat.succ (ih qs e2)
theorem c_max_list {A : Around} {W : Fz} {s : Shared} {Q : Value → Shared → Prop} (rm : Room A n) (g : Good W s.heap) {a : Addr} {us : List Value} {p : Int × Int} {as : List (Int × Int)} {x y : Int} (hl : s.heap.IsList a us.toArray) (hat : ∀ (i : Nat) (v : Value), us[i]? = some v → ∃ q, (p :: as)[i]? = some q ∧ PairAt W v q) (hlen : us.length = (p :: as).length) (hxy : maxP p as = (x, y))
    (hQ : After W s (.tup [.int x, .int y]) Q) : wpAny (model X.prog X.w) A (call (.builtin "max") [.ref a]) Q NoE s := by
  have hu : A.units + 100 < cLine := by have := rm.units; simp only [cLine]; lia
  have hname : (toString "max" ++ toString ".loop" : String) = "max.loop" := by decide
  refine call_function_tree F.kind_max F.plain_max F.entry_max (F.args_max1 _) ?_
  show wpAny _ A.in1 (Builtin.Builtins.bindParams "max" ["key", "default"] 0 ⟨[], []⟩ >>= _) _ _ s
  refine wpAny_bind (wpAny_of_eq (show Builtin.Builtins.bindParams "max" ["key", "default"] 0 ⟨[], []⟩ = pure [none, none] from rfl) ?_)
  refine wpAny_bind (wpAny_pure ?_)
  refine wpAny_bind (wpAny_pyIter_list hl ?_)
  refine wpAny_bind (wpAny_newObj_type ?_)
  rw [hname]
  -- the state: the iterator I, the list S of the best so far
  have hlt : a < s.heap.objs.size := by obtain ⟨o, ho, _⟩ := hl; exact Heap.lt_size ho
  generalize hH : s.heap.push { cls := .type "list_iterator", data := .fields #[.ref a, .int 0 0] } = H
  have hHs : H.objs.size = s.heap.objs.size + 1 := by rw [← hH]; exact Heap.size_push ..
  have gH : Good W H := by rw [← hH]; exact g.push _
  have hIH : H.IsListIter s.heap.objs.size a 0 := by rw [← hH]; exact ⟨_, Heap.get?_push_size _ rfl, rfl, rfl⟩
  have hlH : H.IsList a us.toArray := by rw [← hH]; exact hl.push _
  have kH : ∀ b o, s.heap.get? b = some o → H.get? b = some o := fun b o e => by rw [← hH]; exact Heap.get?_push_of_some _ e
  have hIW : W s.heap.objs.size = none := g.size
  have hSW : W H.objs.size = none := gH.size
  have hSI : H.objs.size ≠ s.heap.objs.size := by rw [hHs]; exact Nat.succ_ne_self _
  have hSl : H.objs.size ≠ a := by rw [hHs]; exact Nat.ne_of_gt (Nat.lt_succ_of_lt hlt)
  refine wpAny_pure ⟨plainId_quiet F.plain_max_loop _, ?_⟩
  dsimp only
  have hS0 : (H.push { cls := .type "list", data := .seq ([] : List Value).toArray }).get? H.objs.size = some { cls := .type "list", data := .seq ([] : List Value).toArray } := Heap.get?_push_size _ rfl
  generalize hK : H.push { cls := .type "list", data := .seq ([] : List Value).toArray } = K at hS0
  have gK : Good W K := by rw [← hK]; exact gH.push _
  have hIK : K.IsListIter s.heap.objs.size a 0 := by
    obtain ⟨o, ho, r⟩ := hIH; rw [← hK]; exact ⟨o, Heap.get?_push_of_some _ ho, r⟩
  have hlK : K.IsList a us.toArray := by rw [← hK]; exact hlH.push _
  have kK : ∀ b o, s.heap.get? b = some o → K.get? b = some o := fun b o e => by rw [← hK]; exact Heap.get?_push_of_some _ (kH b o e)
  have h0 : 0 < us.length := by rw [hlen]; exact Nat.succ_pos _
  have hlI : a ≠ s.heap.objs.size := Nat.ne_of_lt hlt
  refine codeAny_builtin F.entry_max_loop ?_
  rw [Around.under_plainId F.plain_max_loop _]
  show wpAny _ A.in1 (seqItems? (.ref H.objs.size) >>= _) _ _ _
  refine wpAny_bind (wpAny_seqItems hS0 rfl ?_)
  show wpAny _ A.in1 (tryCatch (pyNext (.ref s.heap.objs.size)) _ >>= _) _ _ _
  refine wpAny_bind (wpAny_tryCatch (wpAny_pyNext_list_item hIK hlK (x := us[0]) (by simp [h0]) fun h' hit' hs' => ?_))
  have hS' : h'.get? H.objs.size = _ := (hs'.2 _ hSI).trans hS0
  obtain ⟨q, hq, hpv⟩ := hat 0 us[0] (by simp [h0])
  have hqp : q = p := by simp at hq; exact hq.symm
  subst hqp
  show wpAny _ A.in1 (updateSeq H.objs.size (fun _ => #[us[0], us[0]]) >>= _) _ _ _
  refine wpAny_bind (wpAny_updateSeq hS' rfl ?_)
  rw [hname]
  have g' : Good W h' := fun b o e => by
    have : b ≠ s.heap.objs.size := fun q => by rw [q, hIW] at e; cases e
    exact (hs'.2 b this).trans (gK b o e)
  refine wpAny_pure ⟨plainId_quiet F.plain_max_loop _, max_turns (X := X) (W := W) (as := q :: as) rm.handled hu hlI hSI hSl hIW hSW hat hlen as 1 _ us[0] q _ rfl (fun b o e => ?_) ?_ ?_ hpv (Heap.get?_update_self _ hS' rfl) fun v h'' tk hP hk => ?_⟩
  · have : b ≠ H.objs.size := fun q => by rw [q, hSW] at e; cases e
    exact (Heap.get?_update_other _ _ (Ne.symm this)).trans (g' b o e)
  · obtain ⟨o, ho, r⟩ := hit'
    exact ⟨o, (Heap.get?_update_other _ _ hSI).trans ho, r⟩
  · obtain ⟨o, ho, r⟩ := hlK.extBut hs'.extBut hlI
    exact ⟨o, (Heap.get?_update_other _ _ hSl).trans ho, r⟩
  · rw [hxy] at hP
    refine hQ _ _ W (.heap (s := s) g fun b o e => ?_) hP.rep
    have hb1 : b ≠ s.heap.objs.size := Nat.ne_of_lt (Heap.lt_size e)
    have hb2 : b ≠ H.objs.size := by rw [hHs]; exact Nat.ne_of_lt (Nat.lt_succ_of_lt (Heap.lt_size e))
    exact hk b o hb1 hb2 ((Heap.get?_update_other _ _ (Ne.symm hb2)).trans ((hs'.2 b hb1).trans (kK b o e)))
theorem c_max_flt {A : Around} {W : Fz} {s : Shared} {Q : Value → Shared → Prop} {r : PV} (rm : Room A n) (g : Good W s.heap) {v u x : Value} {p q o : PV} (rv : Rep W v p) (ru : Rep W u q) (rx : Rep W x o) (hf : max3 p q o = some r)
    (hQ : After W s r Q) : wpAny (model X.prog X.w) A (call (.builtin "max") [v, u, x]) Q NoE s := by
  obtain ⟨a, b, c, e1, e2, e3, rfl⟩ := flt3_is hf
  obtain ⟨t, rfl⟩ := rv.flt_of e1
  obtain ⟨t', rfl⟩ := ru.flt_of e2
  obtain ⟨t'', rfl⟩ := rx.flt_of e3
  have hT : (s.heap.push { cls := .type "tuple", data := .seq #[.float a t, .float b t', .float c t''] }).IsTuple s.heap.objs.size #[.float a t, .float b t', .float c t''] := ⟨_, Heap.get?_push_size _ rfl, rfl, 0, rfl⟩
  refine call_max_three (wpAny_pyIter_tuple hT ?_)
  have hsz : (s.heap.push { cls := .type "tuple", data := .seq #[.float a t, .float b t', .float c t''] }).objs.size = s.heap.objs.size + 1 := Heap.size_push ..
  refine ⟨_, [_, s.heap.objs.size], [_], _, _, _, _, rfl, Walks.tuple (A := A.in1) rm.handled _ s.heap.objs.size (by rw [hsz]; exact Nat.ne_of_lt (Nat.lt_succ_self _)) #[.float a t, .float b t', .float c t''],
    ⟨⟨_, Heap.get?_push_size _ rfl, rfl, rfl⟩, hT.push _⟩, fun d hd => ?_, by simp, Flt.cmpOf_gt #[.float a t, .float b t', .float c t''] (by intro v hv; simp at hv; rcases hv with rfl | rfl | rfl <;> exact .float _ _), fun v h' tk hP hk => ?_⟩
  · show d < ((s.heap.push _).push _).objs.size
    rw [Heap.size_push, hsz]
    rcases List.mem_cons.mp hd with rfl | hd
    · rw [hsz]; exact Nat.lt_succ_self _
    · rw [List.mem_singleton.mp hd]; exact Nat.lt_succ_of_lt (Nat.lt_succ_self _)
  · have hold : ∀ d o, s.heap.get? d = some o → h'.get? d = some o := fun d o e => by
      refine hk d o (fun hm => ?_) (Heap.get?_push_of_some _ (Heap.get?_push_of_some _ e))
      have e1 := List.mem_singleton.mp hm
      have := Heap.lt_size e; rw [e1, hsz] at this; exact Nat.lt_irrefl _ (Nat.lt_of_succ_lt this)
    rw [pick3 hP]
    exact hQ _ _ _ (.heap g hold) (sel3_rep (ltF a b) (ltF b c) (ltF a c) a b c t t' t'')
theorem c_max : CallOk X n (.builtin "max") fMax := by
  intro A W s vs ps r Q rm hb g rs hf hQ
  cases rs with
  | nil => cases hf
  | cons rv rs =>
  cases rs with
  | nil =>
    cases rv <;> try (cases hf; done)
    rename_i b us m l e ru
    change max1 (.list l) = some r at hf
    cases hns : pairsOf l with
    | none => unfold max1 at hf; dsimp only at hf; rw [hns] at hf; cases hf
    | some l' =>
    cases l' with
    | nil => unfold max1 at hf; dsimp only at hf; rw [hns] at hf; cases hf
    | cons p as =>
    unfold max1 at hf; dsimp only at hf; rw [hns] at hf; cases hf
    exact c_max_list rm g ⟨_, g _ _ e, rfl, _, rfl⟩ (ru.pairs hns) (ru.length.trans (pairs_len _ _ hns)) rfl hQ
  | cons ru rs =>
  cases rs with
  | nil => cases hf
  | cons rx rs =>
  cases rs with
  | nil => exact c_max_flt rm g rv ru rx hf hQ
  | cons _ _ => cases hf
end
end Mine
end

section
open PySem PySem.W PySem.W.X PySem.W.ZRun PyProof.Rows PySem.Builtin PySem.Builtin.Str
set_option Elab.async false
set_option autoImplicit false
set_option maxRecDepth 100000
namespace Mine
section
variable {X : Top0} {n : Nat} {lay : Lay}

/- slices -/
noncomputable abbrev DenP := List Slot → Option (Option Int)
noncomputable def PartOk (X : Top0) (n : Nat) (lay : Lay) (e : Option Expr) (d : DenP) : Prop :=
  ∀ (A : Around) (env : Env) (W : Fz) (ρ : List Slot) (s : Shared) (i : Option Int) (Q : Value → Shared → Prop),
    Room A n → EnvOk X env lay ρ W s → d ρ = some i → (∀ v s' W', Res W s W' s' → IsPart v i → Q v s') → wpAny (model X.prog X.w) A (evalPart e env) Q NoE s
noncomputable def dPno : DenP := fun _ => some none
noncomputable def dPint (d : Den) : DenP := fun ρ => match d ρ with
  | some (.int i) => some (some i)
  | _ => none
theorem p_no : PartOk X n lay none dPno := by
  intro A env W ρ s i Q rm e hd hQ
  cases hd
  rw [evalPart_none]
  exact wpAny_pure (hQ _ _ W (.refl e.good) .none)
theorem p_int {e : Expr} {d : Den} (h : EOk X n lay e d) : PartOk X n lay (some e) (dPint d) := by
  intro A env W ρ s i Q rm eo hd hQ
  unfold dPint at hd
  split at hd <;> try (cases hd; done)
  rename_i j hj
  cases hd
  rw [evalPart_some]
  refine h A env W ρ s _ _ rm eo hj fun v s₁ W₁ r₁ p₁ => ?_
  obtain ⟨t, rfl⟩ := p₁.isInt
  exact hQ _ _ W₁ r₁ (.int _ _)
noncomputable def pickP (l : List PV) (lo hi st : Option Int) : List PV :=
  (sliceRange (sliceBounds lo hi st l.length).1 (sliceBounds lo hi st l.length).2.1 (sliceBounds lo hi st l.length).2.2).filterMap (l[·]?)
theorem Reps.at {W : Fz} {vs : List Value} {ps : List PV} (r : Reps W vs ps) (i : Nat) : (∃ v p, vs[i]? = some v ∧ ps[i]? = some p ∧ Rep W v p) ∨ (vs[i]? = none ∧ ps[i]? = none) := by
  cases h : ps[i]? with
  | some p => obtain ⟨v, hv, hr⟩ := r.get h; exact .inl ⟨v, p, hv, rfl, hr⟩
  | none =>
    refine .inr ⟨?_, rfl⟩
    rw [List.getElem?_eq_none_iff] at h ⊢
    rw [r.length]; exact h
theorem Reps.pick {W : Fz} {vs : List Value} {ps : List PV} (r : Reps W vs ps) : ∀ is : List Nat, Reps W (is.filterMap (vs[·]?)) (is.filterMap (ps[·]?))
  | [] => .nil
  | i :: is => by
    rcases r.at i with ⟨v, p, hv, hp, hr⟩ | ⟨hv, hp⟩
    · rw [List.filterMap_cons_some hv, List.filterMap_cons_some hp]; exact .cons hr (r.pick is)
    · rw [List.filterMap_cons_none hv, List.filterMap_cons_none hp]; exact r.pick is
theorem reps_slice {W : Fz} {vs : List Value} {ps : List PV} (r : Reps W vs ps) (lo hi st : Option Int) : Reps W (slicePick vs.toArray lo hi st).toList (pickP ps lo hi st) := by
  unfold slicePick pickP
  rw [List.size_toArray, r.length]
  have : (fun (i : Nat) => vs.toArray[i]?) = fun i => vs[i]? := by funext i; simp
  simp only [this]
  exact r.pick _
noncomputable def fSlice : PV → Option Int → Option Int → Option Int → Option PV
  | .list l, lo, hi, some st => match decide (st = 0) with
    | true => none
    | false => match small l.length with
      | true => some (.list (pickP l lo hi (some st)))
      | false => none
  | .list l, lo, hi, none => match small l.length with
      | true => some (.list (pickP l lo hi none))
      | false => none
  | .str x, lo, hi, none => match small x.length with
      | true => some (.str (Txt.slice x lo hi))
      | false => none
  | _, _, _, _ => none
theorem part_of {v : Value} {i : Option Int} (h : IsPart v i) : ∃ o, v = partValue o ∧ i = o.map (·.1) := by
  cases h with
  | none => exact ⟨none, rfl, rfl⟩
  | int i t => exact ⟨some (i, t), rfl, rfl⟩
theorem slice_list_at {A : Around} {W : Fz} {s : Shared} {a : Value} {l : List PV} {vl vu vk : Value} {lo hi st : Option Int} {Q : Value → Shared → Prop} {value slice : Expr} (g : Good W s.heap) (ra : Rep W a (.list l)) (pl : IsPart vl lo) (pu : IsPart vu hi) (pk : IsPart vk st) (h0 : st ≠ some 0) (hs : small l.length = true)
    (hop : ∀ o i, ∃ l, subscripted slice false o i = operate l (getItem o i)) (hQ : After W s (.list (pickP l lo hi st)) Q) :
    wpAny (model X.prog X.w) A (subscriptTail value slice a (.ref s.heap.objs.size)) Q NoE { s with heap := s.heap.push { cls := .type "slice", data := .fields #[vl, vu, vk] } } := by
  obtain ⟨b, us, rfl, hl, ru⟩ := ra.listAt g
  have hsz : us.toArray.size ≤ sizeLine := by rw [List.size_toArray, ru.length]; exact small_le hs
  refine sub_tail (Heap.IsList.typeIs (s := { s with heap := s.heap.push { cls := .type "slice", data := .fields #[vl, vu, vk] } }) (hl.push _)) slot_list_getitem.lookup
    (wpAny_getItem_list_slice (hl.push _) (Heap.IsSliceOf.new ..) pl pu pk h0 ?_ hsz) (hop _ _)
  have r₁ : Res W s W { s with heap := s.heap.push { cls := .type "slice", data := .fields #[vl, vu, vk] }, toks := s.toks } := .pushed g
  have hr := reps_slice ru lo hi st
  have r₂ := Res.new r₁.good (listObj (slicePick us.toArray lo hi st).toList 0) rfl s.toks
  have := hQ _ _ _ (r₁.trans r₂) (.list Fz.add_self (hr.mono (Fz.le_add r₁.good.size)))
  exact this
theorem slice_str_at {A : Around} {W : Fz} {s : Shared} {x : Str} {t : Tok} {vl vu : Value} {lo hi : Option Int} {Q : Value → Shared → Prop} {value slice : Expr} (g : Good W s.heap) (pl : IsPart vl lo) (pu : IsPart vu hi) (hs : small x.length = true)
    (hop : ∀ o i, ∃ l, subscripted slice false o i = operate l (getItem o i)) (hQ : After W s (.str (Txt.slice x lo hi)) Q) :
    wpAny (model X.prog X.w) A (subscriptTail value slice (.str x t) (.ref s.heap.objs.size)) Q NoE { s with heap := s.heap.push { cls := .type "slice", data := .fields #[vl, vu, .none] } } := by
  obtain ⟨l, rfl, rfl⟩ := part_of pl
  obtain ⟨u, rfl, rfl⟩ := part_of pu
  have r₁ : Res W s W { s with heap := s.heap.push { cls := .type "slice", data := .fields #[partValue l, partValue u, .none] }, toks := s.toks } := .pushed g
  refine sub_tail (typeIs_str _ x t) slot_str_getitem.lookup
    (wpAny_getItem_str_slice (l := l) (u := u) (st := none) ⟨_, Heap.get?_push_size _ rfl, rfl, rfl⟩ rfl (post_val_or_str ⟨Nat.le_trans (Txt.slice_le x _ _) (small_le hs), fun t' k => ?_⟩)) (hop _ _)
  exact hQ _ _ W (r₁.trans (.toks r₁.good k)) (.str _ _)
noncomputable def dSlice (v : Den) (a b c : DenP) : Den := fun ρ => match v ρ with
  | some p => match a ρ with
    | some lo => match b ρ with
      | some hi => match c ρ with
        | some st => fSlice p lo hi st
        | none => none
      | none => none
    | none => none
  | none => none
theorem e_slice {v : Expr} {a b c : Option Expr} {p pos : Pos} {dv : Den} {da db dc : DenP} (hv : EOk X n lay v dv) (ha : PartOk X n lay a da) (hb : PartOk X n lay b db) (hc : PartOk X n lay c dc)
    (hs : ∀ o i, ∃ l, subscripted (.Slice a b c p) false o i = operate l (getItem o i) := by intro _ _; exact ⟨_, rfl⟩) :
    EOk X n lay (.Subscript v (.Slice a b c p) pos) (dSlice dv da db dc) := by
  intro A env W ρ s r Q rm e hd hQ
  unfold dSlice at hd
  split at hd <;> try (cases hd; done)
  rename_i q hq
  split at hd <;> try (cases hd; done)
  rename_i lo hlo
  split at hd <;> try (cases hd; done)
  rename_i hi hhi
  split at hd <;> try (cases hd; done)
  rename_i st hst
  refine Subscript_ (hv A env W ρ s q _ rm e hq fun u s₁ W₁ r₁ p₁ => ?_)
  refine wpAny_Slice (ha A env W₁ ρ s₁ lo _ rm (e.res r₁) hlo fun vl s₂ W₂ r₂ p₂ => ?_)
  refine hb A env W₂ ρ s₂ hi _ rm ((e.res r₁).res r₂) hhi fun vu s₃ W₃ r₃ p₃ => ?_
  refine hc A env W₃ ρ s₃ st _ rm (((e.res r₁).res r₂).res r₃) hst fun vk s₄ W₄ r₄ p₄ => ?_
  have rall := ((r₁.trans r₂).trans r₃).trans r₄
  have p₁' := p₁.mono (r₂.le.trans (r₃.le.trans r₄.le))
  have fin : After W₄ s₄ r Q := fun w s₅ W₅ r₅ p₅ => hQ w s₅ W₅ (rall.trans r₅) p₅
  unfold fSlice at hd
  split at hd
  · rename_i l lo hi st
    split at hd <;> try (cases hd; done)
    rename_i h0
    split at hd <;> try (cases hd; done)
    rename_i hsm
    cases hd
    exact slice_list_at r₄.good p₁' p₂ p₃ p₄ (fun q => by cases q; exact absurd rfl (of_decide_eq_false h0)) hsm hs fin
  · rename_i l lo hi
    split at hd <;> try (cases hd; done)
    rename_i hsm
    cases hd
    exact slice_list_at r₄.good p₁' p₂ p₃ p₄ (fun q => by cases q) hsm hs fin
  · rename_i x lo hi
    split at hd <;> try (cases hd; done)
    rename_i hsm
    cases hd
    cases p₁'
    cases p₄
    exact slice_str_at r₄.good p₂ p₃ hsm hs fin
  · cases hd
end
end Mine
end

section
open PySem PySem.W PySem.W.X PySem.W.ZRun PyProof.Rows PySem.Builtin PySem.Builtin.Str
set_option Elab.async false
set_option autoImplicit false
set_option maxRecDepth 100000
namespace Mine
section
variable {X : Top0} {n : Nat} {lay : Lay}

theorem Top0.low {h : Heap} (g : Good X.W₀ h) : (h.objs.size == sysModules) = false := by
  have hlt := (X.g h g).lt
  have h3 : (3 : Nat) < h.objs.size := hlt
  have : h.objs.size ≠ (1 : Nat) := by lia
  simpa [sysModules] using this
theorem pairs_any {p p' : Program} {w w' : World} : ∀ {es : List DictEntry} {kvs : List (Int × Value)}, Pairs (intKind p w) es kvs → Pairs (intKind p' w') es kvs
  | _, _, .nil => .nil
  | _, _, .cons h1 h2 h3 => .cons h1 h2 (pairs_any h3)
theorem dict_any {p p' : Program} {w w' : World} {o : Obj} {kvs : List (Int × Value)} (h : o.IsDictOf (intKind p w) kvs) : o.IsDictOf (intKind p' w') kvs := by
  obtain ⟨es, ep, h1, h2, h3, h4, h5⟩ := h
  exact ⟨es, ep, h1, h2, h3, pairs_any h4, h5⟩
/-- a display of two ints' texts -/
noncomputable def fDict2 : PV → PV → PV → PV → Option PV
  | .int a, .str x, .int b, .str y => match decide (a = b) with
    | true => none
    | false => some (.dict [(.int a, .str x), (.int b, .str y)])
  | _, _, _, _ => none
noncomputable def dDict2 (k1 v1 k2 v2 : Den) : Den := fun ρ => match k1 ρ with
  | some a => match v1 ρ with
    | some x => match k2 ρ with
      | some b => match v2 ρ with
        | some y => fDict2 a x b y
        | none => none
      | none => none
    | none => none
  | none => none
theorem e_dict2 {k1 v1 k2 v2 : Expr} {pos : Pos} {dk1 dv1 dk2 dv2 : Den} (h1 : EOk X n lay k1 dk1) (h2 : EOk X n lay v1 dv1) (h3 : EOk X n lay k2 dk2) (h4 : EOk X n lay v2 dv2) :
    EOk X n lay (.Dict [some k1, some k2] [v1, v2] pos) (dDict2 dk1 dv1 dk2 dv2) := by
  intro A env W ρ s p Q rm e hd hQ
  unfold dDict2 at hd
  split at hd <;> try (cases hd; done)
  rename_i a ha
  split at hd <;> try (cases hd; done)
  rename_i x hx
  split at hd <;> try (cases hd; done)
  rename_i b hb
  split at hd <;> try (cases hd; done)
  rename_i y hy
  have r₀ : Res W s W { s with heap := s.heap.push { cls := .type "dict", data := .dict #[] }, toks := s.toks } := .pushed e.good
  have hlow := X.low e.good0
  have hD0 : (s.heap.push { cls := .type "dict", data := .dict #[] }).DictOf (intKind X.prog X.w) s.heap.objs.size [] := Heap.DictOf.new _
  refine wpAny_Dict_walk (knd := intKind X.prog X.w) rfl rfl (by simp) (by simp) ?_
  refine pairTrees_cons_walk (h1 A env W ρ _ a _ rm (e.res r₀) ha fun u s₁ W₁ r₁ p₁ => ?_)
  refine h2 A env W₁ ρ s₁ x _ rm ((e.res r₀).res r₁) hx fun v s₂ W₂ r₂ p₂ => ?_
  refine pairTrees_cons_walk (h3 A env W₂ ρ s₂ b _ rm (((e.res r₀).res r₁).res r₂) hb fun u' s₃ W₃ r₃ p₃ => ?_)
  refine h4 A env W₃ ρ s₃ y _ rm ((((e.res r₀).res r₁).res r₂).res r₃) hy fun v' s₄ W₄ r₄ p₄ => ?_
  refine pairTrees_nil_walk ?_
  unfold fDict2 at hd
  split at hd <;> try (cases hd; done)
  rename_i a x b y
  split at hd <;> try (cases hd; done)
  rename_i hab
  cases hd
  obtain ⟨t1, rfl⟩ := p₁.isInt
  obtain ⟨t2, rfl⟩ := p₂.isStr
  obtain ⟨t3, rfl⟩ := p₃.isInt
  obtain ⟨t4, rfl⟩ := p₄.isStr
  have hne : a ≠ b := of_decide_eq_false hab
  have rr := ((r₁.trans r₂).trans r₃).trans r₄
  refine ⟨[(a, .str x t2), (b, .str y t4)], ⟨by simp [intKind, Value.isInt], rfl, by simp [intKind, Value.isInt], rfl, trivial⟩, hD0.keep rr.stp.keep, fun h' hm hs => ?_⟩
  have hmer : merged [] [(a, Value.str x t2), (b, Value.str y t4)] = [(a, Value.str x t2), (b, Value.str y t4)] := by
    simp [merged, stored, hne]
  rw [hmer] at hm
  obtain ⟨o, ho, hio⟩ := Heap.dictOf_iff.mp hm
  have hnW : W₄ s.heap.objs.size = none := by
    cases q : W₄ s.heap.objs.size with
    | none => rfl
    | some o' =>
      have h1 := rr.news _ o' q
      have h2 : (s.heap.push { cls := .type "dict", data := .dict #[] }).get? s.heap.objs.size = some { cls := .type "dict", data := .dict #[] } := Heap.get?_push_size _ rfl
      cases q2 : W s.heap.objs.size with
      | none => have h3 := h1 q2; rw [h2] at h3; cases h3
      | some o2 => rw [e.good.size] at q2; cases q2
  have le := Fz.le_add (o := o) hnW
  have good : Good (W₄.add s.heap.objs.size o) h' := fun c oc ec => by
    by_cases hc : c = s.heap.objs.size
    · subst hc; rw [Fz.add_self] at ec; cases ec; exact ho
    · rw [Fz.add_ne hc] at ec; exact (hs.2 c hc).trans (rr.good c oc ec)
  refine hQ _ _ (W₄.add s.heap.objs.size o) ⟨(r₀.trans rr).le.trans le, good, ⟨fun c oc ec => ?_, (r₀.trans rr).stp.os, (r₀.trans rr).stp.gens, (r₀.trans rr).stp.bare⟩, fun c oc q1 q2 => ?_⟩ (.dict Fz.add_self hlow ?_)
  · exact (hs.2 c (Nat.ne_of_lt (Heap.lt_size ec))).trans ((r₀.trans rr).stp.keep c oc ec)
  · by_cases hc : c = s.heap.objs.size
    · subst hc; exact fresh_none
    · rw [Fz.add_ne hc] at q1; exact (r₀.trans rr).news c oc q1 q2
  · refine ⟨?_, _, fun p w => dict_any hio, .cons (PyProof.V.Flat.str _ _) (.cons (PyProof.V.Flat.str _ _) .nil)⟩
    obtain ⟨es, ep, _, h2, h3, h4, _⟩ := hio
    refine ⟨es, ep, h2, ?_, fun en hen => ?_⟩
    · have := h4.length
      simp at this
      lia
    · obtain ⟨k, hk, _⟩ := h3 en hen
      obtain ⟨t, ht⟩ := Value.isInt_shape hk
      exact ⟨k, t, ht⟩

/-- an item of a written dict of texts -/
noncomputable def dCdict (D : List (PyData × PyData)) (d : Den) : Den := fun ρ => match d ρ with
  | some (.str x) => match Spec.lookup (.str x) D with
    | some (.str y) => some (.str y)
    | _ => none
  | _ => none
theorem e_cdict {keys : List (Option Expr)} {values : List Expr} {i : Expr} {p pos : Pos} {D : List (PyData × PyData)} {d : Den} (hi : EOk X n lay i d) (hD : litPairs keys values = some D) (hk : strKeyed D = true) (hn : (strKeysOf D).Nodup)
    (hall : keys.all (·.isSome) = true) (hl : keys.length = values.length) (h0 : keys ≠ []) (hlen : keys.length ≤ 15)
    (hs : ∀ o j, ∃ l, subscripted i false o j = operate l (getItem o j) := by intro _ _; exact ⟨_, rfl⟩) : EOk X n lay (.Subscript (.Dict keys values p) i pos) (dCdict D d) := by
  intro A env W ρ s r Q rm e hd hQ
  unfold dCdict at hd
  split at hd <;> try (cases hd; done)
  rename_i x hx
  split at hd <;> try (cases hd; done)
  rename_i y hy
  cases hd
  refine Subscript_ (Dict_lits_str hD hk hn hall hl h0 hlen fun a o h₁ tk hle ho hT hkeep => ?_)
  have r₁ : Res W s W { s with heap := h₁, toks := tk } := .heap e.good hkeep
  refine hi A env W ρ _ _ _ rm (e.res r₁) hx fun u s₂ W₂ r₂ p₂ => ?_
  obtain ⟨t, rfl⟩ := p₂.isStr
  obtain ⟨kvs, hio, hf⟩ := hT
  have ho₂ := r₂.stp.keep _ _ ho
  have hdo : s₂.heap.DictOf (strKind X.prog X.w) a kvs := Heap.dictOf_iff.mpr ⟨o, ho₂, hio⟩
  obtain ⟨v, hv, hfl⟩ := hf.of_lookup PyProof.V.same_str (k := x) hy
  obtain ⟨t', rfl⟩ := hfl.str_inv
  exact sub_tail hdo.typeIs slot_dict_getitem.lookup (wpAny_getItem_of (strKind_is X.prog X.w x t) hdo.mapOf hv (hQ _ _ W₂ ((r₁.trans r₂).trans (.toks r₂.good _)) (.str _ _))) (hs _ _)

/- an owned list read in an expression whose value is a list of ints -/
noncomputable def isInts : PV → Bool
  | .list (.int _ :: l) => match intsOf l with
    | some _ => true
    | none => false
  | _ => false
noncomputable def isStrs : List PV → Bool
  | .str _ :: _ => true
  | _ => false
noncomputable def dLend (i j : Nat) (d : Den) : DenS := fun ρ => match ρ[i]? with
  | some (.own l) => match isStrs l with
    | true => match d (ρ.set i (.val (.list l))) with
      | some p => match isInts p with
        | true => some (.next, ρ.set j (.val p))
        | false => none
      | none => none
    | false => none
  | _ => none
theorem Rep.listInv {W : Fz} {v : Value} {l : List PV} (r : Rep W v (.list l)) : ∃ a vs n, v = .ref a ∧ W a = some { cls := .type "list", data := .seq vs.toArray n } ∧ Reps W vs l := by
  cases r with
  | list e rs => exact ⟨_, _, _, rfl, e, rs⟩
theorem isInts_is {p : PV} (h : isInts p = true) : ∃ z l ns, p = .list (.int z :: l) ∧ intsOf l = some ns := by
  cases p <;> try (cases h; done)
  rename_i l
  cases l with
  | nil => cases h
  | cons q l =>
    cases q <;> try (cases h; done)
    cases e : intsOf l with
    | none =>
      change (match intsOf l with | some _ => true | none => false) = true at h
      rw [e] at h; cases h
    | some ns => exact ⟨_, _, _, rfl, e⟩
theorem reps_ints {W W' : Fz} {us : List Value} {ps : List PV} {ns : List Int} (r : Reps W us ps) (h : intsOf ps = some ns) : Reps W' us ps := by
  refine r.ind (M := fun us ps => ∀ ns, intsOf ps = some ns → Reps W' us ps) (fun _ _ => .nil) (fun v q us ps r _ ih ns h => ?_) ns h
  cases r <;> try (cases h; done)
  unfold intsOf at h
  cases e : intsOf ps with
  | none => rw [e] at h; cases h
  | some ns => exact .cons (.int _ _) (ih _ e)
theorem lend_rep {W W₁ W' : Fz} {L : Addr} {vs : List Value} {k : Nat} {l : List PV} {v : Value} {p : PV} (out : ∀ a, a ≠ L → W' a = W₁ a) (hat : W₁ L = some (listObj vs k)) (hr : Reps W vs l) (hls : isStrs l = true) (hpi : isInts p = true) (r : Rep W₁ v p) : Rep W' v p := by
  obtain ⟨z, l', ns, rfl, hns⟩ := isInts_is hpi
  obtain ⟨a, us, m, rfl, e, rs⟩ := r.listInv
  have ha : a ≠ L := fun q => by
    subst q
    rw [hat] at e
    cases e
    cases hr with
    | nil => cases hls
    | cons r0 _ =>
      cases rs with
      | cons r1 _ =>
        cases r1
        cases r0
        cases hls
  refine .list (by rw [out a ha]; exact e) (reps_ints (ns := z :: ns) rs ?_)
  show (match intsOf l' with | some ns => some (z :: ns) | none => none) = _
  rw [hns]
theorem st_lend {x y : Str} {px pos : Pos} {e : Expr} {d : Den} (i j : Nat) (hj : j < lay.wr) (hx : lay.slots[i]? = some x) (hy : lay.slots[j]? = some y) (h : EOk X n lay e d)
    (hs : ∀ env, env.scope.kind = .function → env.scope.names = lay.names → swapsWith e (some (.Name y px)) pos.line env = pure false := by intro env _ _; rfl) : StOk X n lay (.Assign [.Name y px] e pos) (dLend i j d) := by
  intro A env b Wb W ρ s f ρ' Q rm F hd hQ
  unfold dLend at hd
  split at hd <;> try (cases hd; done)
  rename_i l hl
  split at hd <;> try (cases hd; done)
  rename_i hls
  split at hd <;> try (cases hd; done)
  rename_i p hp
  split at hd <;> try (cases hd; done)
  rename_i hpi
  cases hd
  obtain ⟨fo, hf, hf'⟩ := F.own
  obtain ⟨h1, h2⟩ := hf i x l hx hl
  obtain ⟨vs, k, ho, hr⟩ := h2.obj
  have le := Fz.le_add (o := listObj vs k) h2.fz
  -- the list frozen for the time of the expression
  have F' : EnvOk X env lay (ρ.set i (.val (.list l))) (W.add (fo i) (listObj vs k)) s := by
    refine ⟨F.e.good.add ho, F.e.base.trans le, F.e.kind, F.e.glob, F.e.blt, F.e.names, F.e.cellsAt, fun m z q hz hq => ?_⟩
    rcases slot_set hq with ⟨rfl, e⟩ | ⟨hm, hq⟩
    · rw [hx] at hz; cases hz
      cases e
      exact ⟨_, h1, .list Fz.add_self (hr.mono le)⟩
    · obtain ⟨u, hu, hr'⟩ := F.e.slot m z q hz hq
      exact ⟨u, hu, hr'.mono le⟩
  refine wpAny_Assign_Name (h A env _ _ s p _ rm F' hp fun v s₁ W₁ r₁ p₁ => ?_) (hs env F.e.kind F.e.names)
  -- thawed
  have hat : W₁ (fo i) = some (listObj vs k) := r₁.le _ _ Fz.add_self
  have sub : ∀ a o, (W₁.drop [fo i]) a = some o → W₁ a = some o := fun a o e => by
    by_cases hw : a ∈ [fo i]
    · simp [Fz.drop, List.mem_singleton.mp hw] at e
    · simpa [Fz.drop, hw] using e
  have out : ∀ a, a ≠ fo i → (W₁.drop [fo i]) a = W₁ a := fun a ha => by simp [Fz.drop, ha]
  have leW : W.le (W₁.drop [fo i]) := fun a o e => by
    have ha : a ≠ fo i := fun q => by rw [q, h2.fz] at e; cases e
    rw [out a ha]; exact r₁.le a o (le a o e)
  have res : Res W s (W₁.drop [fo i]) s₁ := ⟨leW, fun a o e => r₁.good a o (sub a o e), r₁.stp, fun a o q1 q2 => by
    have ha : a ≠ fo i := fun q => by rw [q] at q1; simp [Fz.drop] at q1
    refine r₁.news a o (sub a o q1) ?_
    rw [Fz.add_ne ha]; exact q2⟩
  have rp : Rep (W₁.drop [fo i]) v p := lend_rep out hat hr hls hpi p₁
  exact (F.step res).put hj hy rp fun s₂ F₂ k₂ => hQ .next s₂ _ leW F₂ (res.stp.gk.trans k₂) trivial
end
end Mine
end

section
open PySem PySem.W PySem.W.X PySem.W.ZRun PyProof.Rows
set_option Elab.async false
set_option autoImplicit false

namespace Mine

noncomputable abbrev FeedG (X : Top0) (A : Around) (tg : Expr) (it : Value) (gs : List Nat) (St : List PV → List Addr → Fz → Shared → Prop) : Prop := FeedGK X 5 A tg it gs St

section
variable {X : Top0} {n : Nat} {lay : Lay}

noncomputable def SrcOkG (X : Top0) (n : Nat) (lay : Lay) (tg e : Expr) (d : Dens) : Prop :=
  ∀ (A : Around) (env : Env) (W : Fz) (ρ : List Slot) (s : Shared) (l : List PV) (Q : Value → Shared → Prop), Room A n → EnvOk X env lay ρ W s → d ρ = some l →
    (∀ it s' W' wr gs St, Res W s W' s' → FeedG X A tg it gs St → St l wr W' s' → OwnIt s W' s' wr gs → Q it s') → wpAny (model X.prog X.w) A (eval e env) (fun x s₁ => wpAny (model X.prog X.w) A (pyIter x) Q NoE s₁) NoE s
theorem st_forG {tg e : Expr} {body : List Stmt} {pos : Pos} {src : Dens} {upd : List Slot → PV → Option (List Slot)} {D : DenS} (hn5 : 5 ≤ n) (hsrc : SrcOkG X n lay tg e src) (ht : TgtOk X lay tg upd) (hb : SOk X n lay body D)
    (hs : ∀ env x, foldedSetIterable e env x = pure x := by intro _ _; rfl) : StOk X n lay (.For tg e body [] pos) (dFor src upd D) := by
  intro A env b Wb W ρ s f ρ' Q rm F hd hQ
  unfold dFor at hd
  split at hd <;> try (cases hd; done)
  rename_i l hl
  refine wpAny_For (hsrc A env W ρ s l _ rm F.e hl fun it s₁ W₁ wr gs St r₁ Fd hst ow => ?_) (hs env)
  refine for_okG rm hn5 Fd ht hb (F.step r₁) hst (F.sep ow) hd fun fl s₂ W₂ le₂ F₂ gx hfl => ?_
  exact hQ fl s₂ W₂ (r₁.le.trans le₂) F₂ ⟨gx.os.trans r₁.stp.os, fun g x e => gx.gens g x (fun hg => by rw [ow.gs g hg] at e; cases e) (r₁.stp.gens g x e), fun h => gx.bare (r₁.stp.bare h)⟩ hfl
end
end Mine
end

section
open PySem PySem.W PySem.W.X PySem.W.ZRun PyProof.Rows
set_option Elab.async false
set_option autoImplicit false
set_option maxRecDepth 100000
namespace Mine

/- a heap without some objects -/
noncomputable def maskH (h : Heap) (wr : List Addr) : Heap := { h with objs := h.objs.mapIdx fun i o => if wr.contains i then { o with data := .freed } else o }
theorem mask_get {h : Heap} {wr : List Addr} {a : Addr} {o : Obj} : (maskH h wr).get? a = some o ↔ a ∉ wr ∧ h.get? a = some o := by
  rw [Heap.get?_some_iff, Heap.get?_some_iff]
  unfold maskH
  simp only [Array.getElem?_mapIdx]
  cases e : h.objs[a]? with
  | none => simp
  | some x =>
    simp only [Option.map_some]
    by_cases hw : a ∈ wr
    · simp only [List.contains_iff_mem, hw, if_true, not_true, false_and, iff_false]
      rintro ⟨h1, h2⟩
      cases h1
      simp [Obj.isFreed] at h2
    · simp [hw]
noncomputable def mask (s : Shared) (wr : List Addr) : Shared := { s with heap := maskH s.heap wr }

noncomputable def flatP : PV → Bool
  | .none => true
  | .bool _ => true
  | .int _ => true
  | .str _ => true
  | _ => false
theorem Rep.flat {W W' : Fz} {v : Value} {p : PV} (r : Rep W v p) (h : flatP p = true) : Rep W' v p := by
  cases r <;> simp only [flatP] at h <;> first | exact .none | exact .bool _ | exact .int _ _ | exact .str _ _ | cases h
noncomputable def FlatS (ρ : List Slot) : Prop := ∀ (i : Nat) (q : Slot), ρ[i]? = some q → q = .unset ∨ ∃ p, q = .val p ∧ flatP p = true
theorem FlatS.set {ρ : List Slot} (h : FlatS ρ) {i : Nat} {p : PV} (hp : flatP p = true) : FlatS (ρ.set i (.val p)) := fun j q e => by
  rcases slot_set e with ⟨_, rfl⟩ | ⟨_, e⟩
  · exact .inr ⟨p, rfl, hp⟩
  · exact h j q e
theorem FlatS.noOwn {ρ : List Slot} (h : FlatS ρ) : NoOwn ρ := fun i l e => by
  rcases h i _ e with q | ⟨p, q, _⟩ <;> cases q

theorem ns_noRep {h : Heap} {a : Addr} {m : Str → Option Value} (x : h.Ns a m) : ∃ o, h.get? a = some o ∧ Free o := by
  obtain ⟨o, es, ep, ho, hd, hs, _⟩ := x
  refine ⟨o, ho, ⟨(fun v q => by rw [hd] at q; cases q), (fun _ _ q => by rw [hd] at q; cases q), fun D ⟨⟨es', ep', h2, hsz, hk⟩, _⟩ => ?_⟩⟩
  rw [hd] at h2
  cases h2
  obtain ⟨i, t, hi⟩ := hk es[0] (Array.getElem_mem hsz)
  have := hs es[0] (Array.getElem_mem hsz)
  obtain ⟨_, _, hn⟩ := this
  rw [hi] at hn
  cases hn
section
variable {X : Top0} {n : Nat} {lay : Lay}

/-- what holds of the block while it waits -/
structure Waits (X : Top0) (env : Env) (lay : Lay) (ρ : List Slot) (s : Shared) : Prop where
  e : EnvOk X env lay ρ X.W₀ s
  ns : ∃ m, s.heap.Ns env.locals m
  flat : FlatS ρ
  loc : ∀ (i : Nat) (x : Str), lay.slots[i]? = some x → env.kindOf x = some .local
  nodup : ∀ (i j : Nat) (x : Str), lay.slots[i]? = some x → lay.slots[j]? = some x → i = j
theorem Waits.later {env : Env} {ρ : List Slot} {s s' : Shared} (w : Waits X env lay ρ s) (g : Good X.W₀ s'.heap) (k : ∀ o, s.heap.get? env.locals = some o → s'.heap.get? env.locals = some o) : Waits X env lay ρ s' := by
  obtain ⟨m, hm⟩ := w.ns
  refine ⟨⟨g, w.e.base, w.e.kind, w.e.glob, w.e.blt, w.e.names, w.e.cellsAt, fun i x p hx hp => ?_⟩, ⟨m, hm.at' k⟩, w.flat, w.loc, w.nodup⟩
  obtain ⟨v, hv, rv⟩ := w.e.slot i x p hx hp
  refine ⟨v, ?_, rv⟩
  rcases hv with ⟨e, m', hm', hv'⟩ | ⟨e, _⟩
  · exact .inl ⟨e, m', hm'.at' k, hv'⟩
  · rw [w.loc i x hx] at e; cases e
theorem Waits.frame {env : Env} {ρ : List Slot} {s : Shared} {wr : List Addr} (w : Waits X env lay ρ s) (hL : env.locals ∈ wr) (h0 : X.W₀ env.locals = none) : Frm X (mask s wr) X.W₀ env lay ρ X.W₀ s := by
  refine ⟨w.e, ⟨.refl, w.e.good, ⟨fun a o e => (mask_get.mp e).2, rfl, fun _ _ e => e, fun h => h⟩, fun a o h h' => by rw [h'] at h; cases h⟩, w.ns, ?_, h0, fun i x _ hx => .inl (w.loc i x hx), fun i x y c _ hx hk => ?_, w.nodup, ?_⟩
  · cases q : (mask s wr).heap.get? env.locals with
    | none => rfl
    | some o => exact absurd hL (mask_get.mp q).1
  · rw [w.loc i x hx] at hk; cases hk
  · exact ⟨fun _ => 0, fun i x l hx hl => absurd hl (w.flat.noOwn i l), fun i j x y l l' hx hy hl => absurd hl (w.flat.noOwn i l)⟩
theorem Frm.waits {b : Shared} {Wb W : Fz} {env : Env} {ρ : List Slot} {s : Shared} (F : Frm X b Wb env lay ρ W s) (hf : FlatS ρ) (hl : ∀ (i : Nat) (x : Str), lay.slots[i]? = some x → env.kindOf x = some .local) : Waits X env lay ρ s :=
  ⟨⟨fun a o e => F.e.good a o (F.e.base a o e), .refl, F.e.kind, F.e.glob, F.e.blt, F.e.names, F.e.cellsAt, fun i x p hx hp => by
    obtain ⟨v, hv, rv⟩ := F.e.slot i x p hx hp
    refine ⟨v, hv, ?_⟩
    rcases hf i _ hp with q | ⟨p', q, hp'⟩
    · cases q
    · cases q; exact rv.flat hp'⟩, F.ns, hf, hl, F.nodup⟩

/- the trees of a generator -/
variable {A : Around} {R : GenEnd} {Y : Protocol} {m : Nat} {s₀ : Shared} {c : Code} {fs : List Frame} {s : Shared} {env : Env} {K : Flow → Sem PySem.Fin} {H : Value → Sem PySem.Fin} {gd : Bool → Bool} {lv : List Value → List Value}
  {b : Shared} {Wb W : Fz} {ρ : List Slot}
theorem seg_st {st : Stmt} {D : DenS} {ρ' : List Slot} (h : StOk X n lay st D) (rm : Room (A.over c fs) n) (F : Frm X b Wb env lay ρ W s) (hd : D ρ = some (.next, ρ'))
    (hk : ∀ s' W', W.le W' → Frm X b Wb env lay ρ' W' s' → GK s s' → Seg (model X.prog X.w) A R Y m s₀ c (K .next) fs s') : Seg (model X.prog X.w) A R Y m s₀ c ((exec st env).wrap K H gd lv) fs s :=
  seg_wrap (wpAny_mono (h _ env b Wb W ρ s .next ρ' _ rm F hd fun fl s' W' le F' k hf => (by
    cases fl <;> simp only [FlowIs] at hf
    exact hk s' W' le F' k)) (fun _ _ h => h) fun _ _ x => x.elim)
theorem seg_If {t : Expr} {as bs : List Stmt} {pos : Pos} {dt : DenB} {c' : Bool} (ht : TOk X n lay t dt) (rm : Room (A.over c fs) n) (F : Frm X b Wb env lay ρ W s) (hd : dt ρ = some c')
    (hk : ∀ s' W', W.le W' → Frm X b Wb env lay ρ W' s' → GK s s' → Seg (model X.prog X.w) A R Y m s₀ c ((if c' = true then execs as env else execs bs env : Sem Flow).wrap K H gd lv) fs s') :
    Seg (model X.prog X.w) A R Y m s₀ c ((exec (.If t as bs pos) env).wrap K H gd lv) fs s := by
  rw [arm_exec_If]
  refine seg_at ?_
  show Seg _ A R Y m s₀ c ((isTrue t env (eval t env) >>= fun b => if b = true then execs as env else execs bs env).wrap K H gd lv) fs s
  rw [Sem.bind_eq_wrap', Sem.wrap_wrap]
  refine seg_wrap (wpAny_mono (ht _ env W ρ s c' (fun bb s' => Seg (model X.prog X.w) A R Y m s₀ c ((if bb = true then execs as env else execs bs env : Sem Flow).wrap K H gd lv) fs s') rm F.e hd fun s' W' r => hk s' W' r.le (F.step r) r.stp.gk) (fun bb s' hb => hb) fun _ _ x => x.elim)
/-- the error's way of a loop -/
noncomputable abbrev errW (env : Env) : Value → Sem PySem.Fin := fun e => (do noteFrame e env; theTreesLotGoes e : Sem Unit).wrap (fun _ => .raise e) .raise id id
noncomputable abbrev turnK (c : Code) : Flow → Sem PySem.Fin := fun f => match f with
  | .next | .cont => .pure (.again c)
  | .brk => .pure (.done .next)
  | .ret v => .pure (.done (.ret v))
theorem seg_forLoop {tg : Expr} {it : Value} {body : List Stmt} {env : Env}
    (h : wpAny (model X.prog X.w) (A.over (.forLoop tg it body [] env) fs) (pyNext it) (fun r s₁ => match r with
      | none => Seg (model X.prog X.w) A R Y m s₀ (.block [] env) ((model X.prog X.w).den (.block [] env)) fs s₁
      | some v => wpAny (model X.prog X.w) (A.over (.forLoop tg it body [] env) fs) (letOwnedTupleGo tg it v) (fun _ s₂ => wpAny (model X.prog X.w) (A.over (.forLoop tg it body [] env) fs) (assign tg env v) (fun _ s₃ =>
          Seg (model X.prog X.w) A R Y m s₀ (.forLoop tg it body [] env) ((execs body env).wrap (turnK (.forLoop tg it body [] env)) (errW env) id id) fs s₃) NoE s₂) NoE s₁) NoE s) :
    Seg (model X.prog X.w) A R Y m s₀ (.forLoop tg it body [] env) ((model X.prog X.w).den (.forLoop tg it body [] env)) fs s := by
  show Seg _ A R Y m s₀ _ ((forTurn tg it body [] env).onRaise (fun x => do noteFrame x env; theTreesLotGoes x)) fs s
  unfold forTurn
  rw [Sem.onRaise_eq_wrap]
  show Seg _ A R Y m s₀ _ ((standAt tg.pos >>= _).wrap _ _ _ _) fs s
  refine seg_bind_wrap (wpAny_standAt ?_)
  refine seg_bind_wrap (wpAny_onRaise (wpAny_mono h (fun r s₁ h₁ => ?_) fun _ _ x => x.elim))
  cases r with
  | none => exact seg_again rfl h₁
  | some v =>
    refine seg_bind_wrap (wpAny_mono h₁ (fun _ s₂ h₂ => ?_) fun _ _ x => x.elim)
    refine seg_bind_wrap (wpAny_mono h₂ (fun _ s₃ h₃ => ?_) fun _ _ x => x.elim)
    rw [Sem.bind_eq_wrap', Sem.wrap_wrap]
    rw [Sem.wrap_congr (execs body env) _ _ (K' := turnK (.forLoop tg it body [] env)) (H' := errW env) (fun f => by cases f <;> rfl)
      (fun e => by first | exact Sem.bind_eq_wrap _ _ | (show (do noteFrame e env; theTreesLotGoes e : Sem Unit).bind (fun _ => .raise e) = _; rw [Sem.bind_eq_wrap]))]
    exact h₃
theorem seg_block {env : Env} {fs : List Frame} (h : Seg (model X.prog X.w) A R Y m s₀ (.block [] env) (leafOf (.ok .next)) fs s) :
    Seg (model X.prog X.w) A R Y m s₀ (.block [] env) ((model X.prog X.w).den (.block [] env)) fs s := h
/-- a frame that waits for a loop's end -/
noncomputable abbrev loopK (env : Env) (K : Flow → Sem PySem.Fin) (H : Value → Sem PySem.Fin) (gd : Bool → Bool) (lv : List Value → List Value) : Result → Sem PySem.Fin := fun r => ((match r with | .ok f => (.pure f : Sem Flow) | .error e => .raise e).onRaise fun (x : Value) => do
        if (← field x 1) == Value.none then unsupported "frame.own-activation:exception-without-traceback"
        setFlight x env.frame).wrap K H gd lv
theorem seg_For {tg iter : Expr} {body : List Stmt} {pos : Pos} {env : Env} (hs : ∀ x, foldedSetIterable iter env x = pure x)
    (h : wpAny (model X.prog X.w) (A.over c fs) (eval iter env) (fun x s₁ => wpAny (model X.prog X.w) (A.over c fs) (pyIter x) (fun it s₂ => ∀ p, Seg (model X.prog X.w) A R Y m s₀ (.forLoop tg it body [] env) ((model X.prog X.w).den (.forLoop tg it body [] env))
      (.ret (loopK env K H gd lv) none (gd false) (lv []) c p [] :: fs) s₂) NoE s₁) NoE s) :
    Seg (model X.prog X.w) A R Y m s₀ c ((exec (.For tg iter body [] pos) env).wrap K H gd lv) fs s := by
  rw [exec_For]
  show Seg _ A R Y m s₀ c ((standAt pos >>= fun _ => eval iter env >>= fun y => foldedSetIterable iter env y >>= fun x => standAt iter.pos >>= fun _ => holding [x] (pyIter x) >>= fun it => runOwn (.forLoop tg it body [] env) env).wrap K H gd lv) fs s
  refine seg_bind_wrap (wpAny_standAt ?_)
  refine seg_bind_wrap (wpAny_mono h (fun x s₁ h₁ => ?_) fun _ _ x => x.elim)
  rw [hs x]
  refine seg_bind_wrap (wpAny_pure ?_)
  refine seg_bind_wrap (wpAny_standAt ?_)
  refine seg_bind_wrap (wpAny_holding (wpAny_mono h₁ (fun it s₂ h₂ => ?_) fun _ _ x => x.elim))
  exact seg_call h₂
end
end Mine
end

section
open PySem PySem.W PySem.W.X PySem.W.ZRun PyProof.Rows
set_option Elab.async false
set_option autoImplicit false
set_option maxRecDepth 100000
namespace Mine

/-- a text's signs one by one, a sign behind a backslash with it -/
noncomputable def escL : Nat → Bool → List Nat → List PV
  | k, true, [] => [.tup [.int (Int.ofNat k - 1), .str ⟨#[92]⟩]]
  | _, false, [] => []
  | k, true, c :: cs => .tup [.int (Int.ofNat k), .str ⟨#[92, c]⟩] :: escL (k + 1) false cs
  | k, false, c :: cs => match Nat.beq c 92 with
    | true => escL (k + 1) true cs
    | false => .tup [.int (Int.ofNat k), .str ⟨#[c]⟩] :: escL (k + 1) false cs

/- counting a text's signs -/
noncomputable def EnSt (x : Str) (t : Tok) (E I : Addr) (i : Nat) (h : Heap) : Prop := (∃ old, IsEnum h E I i old) ∧ h.IsStrIter I (strIterType x) x t i
noncomputable def enS (x : Str) (t : Tok) (E I : Addr) : List PV → Fz → Shared → Prop := fun l W s => ∃ (i : Nat), l = enumFrom i ((signs x).drop i) ∧ i ≤ (signs x).length ∧ (∃ old, IsEnum s.heap E I i old) ∧ s.heap.IsStrIter I (strIterType x) x t i ∧
  (∀ (j : Nat) (v : Value) (p : PV), (∃ c u, x.cps[j]? = some c ∧ v = .str ⟨#[c]⟩ u) → (signs x)[j]? = some p → Rep W v p) ∧ ∀ a ∈ [I], a = I ∨ ∃ o, W a = some o
theorem signs_rep {x : Str} {W : Fz} : ∀ (j : Nat) (v : Value) (p : PV), (∃ c u, x.cps[j]? = some c ∧ v = .str ⟨#[c]⟩ u) → (signs x)[j]? = some p → Rep W v p := by
  rintro j v p ⟨c, u, hc, rfl⟩ hp
  simp [signs] at hp
  obtain ⟨c', hc', rfl⟩ := hp
  rw [hc] at hc'; cases hc'
  exact .str _ _
theorem EnSt.st {x : Str} {t : Tok} {E I : Addr} {i : Nat} {s : Shared} {W : Fz} (h : EnSt x t E I i s.heap) (hi : i ≤ (signs x).length) : enS x t E I (enumFrom i ((signs x).drop i)) W s :=
  ⟨i, rfl, hi, h.1, h.2, signs_rep, fun a ha => .inl (List.mem_singleton.mp ha)⟩
theorem enumFrom_length : ∀ (l : List PV) (k : Nat), (enumFrom k l).length = l.length
  | [], _ => rfl
  | _ :: l, k => by simp [enumFrom, enumFrom_length l]
theorem enS_at {x : Str} {t : Tok} {E I : Addr} {i : Nat} {s : Shared} {W : Fz} (hi : i ≤ (signs x).length) (h : enS x t E I (enumFrom i ((signs x).drop i)) W s) : EnSt x t E I i s.heap := by
  obtain ⟨j, hl, hj, h1, h2, _⟩ := h
  have := congrArg List.length hl
  rw [enumFrom_length, enumFrom_length, List.length_drop, List.length_drop] at this
  have e : j = i := by omega
  subst e
  exact ⟨h1, h2⟩

section
variable {X : Top0} {n : Nat} {lay : Lay}
theorem enFeed {A : Around} {es : List Expr} {k : Nat} {pos : Pos} {x : Str} {t : Tok} {E I : Addr} (hh : A.handled = none) (hEI : E ≠ I) : Feed X A (.Tuple es k pos) (.ref E) [E, I] [] (enS x t E I) := by
  have hszx : x.cps.size = (signs x).length := by simp [signs]
  refine feed_enum (e := E) (it := I) (fp := [I]) (P := fun i v => ∃ c u, x.cps[i]? = some c ∧ v = .str ⟨#[c]⟩ u) (StD := fun i h => h.IsStrIter I (strIterType x) x t i) (signs x) ?_ hEI (fun hc => hEI (List.mem_singleton.mp hc)) (by simp) ?_
  · rw [← hszx]
    unfold strIterType
    split
    · exact Draws.strAscii (A := A.in1) hh _ x t
    · exact Draws.strWide (A := A.in1) hh _ x t
  · rintro i h ⟨o, ho, hc, hd⟩
    exact ⟨o, ho, .fields hd⟩

/- the state within the generator -/
structure Run (X : Top0) (lay : Lay) (env : Env) (x : Str) (t : Tok) (E I : Addr) (s₀ : Shared) (ρ : List Slot) (i : Nat) (W : Fz) (s : Shared) : Prop where
  F : Frm X (mask s₀ [env.locals, E, I]) X.W₀ env lay ρ W s
  en : EnSt x t E I i s.heap
/-- its counters free to be turned, or fast -/
noncomputable def LoopSt (X : Top0) (lay : Lay) (env : Env) (x : Str) (t : Tok) (E I : Addr) (s₀ : Shared) (ρ : List Slot) (i : Nat) (s : Shared) : Prop := ∃ W, Run X lay env x t E I s₀ ρ i W s ∧ W E = none ∧ W I = none
noncomputable def FastIn (E I : Addr) (W : Fz) (h : Heap) : Prop := ∀ a ∈ [E, I], ∃ o, h.get? a = some o ∧ W a = some o ∧ Free o
noncomputable def LockSt (X : Top0) (lay : Lay) (env : Env) (x : Str) (t : Tok) (E I : Addr) (s₀ : Shared) (ρ : List Slot) (i : Nat) (s : Shared) : Prop := ∃ W, Run X lay env x t E I s₀ ρ i W s ∧ FastIn E I W s.heap
theorem EnSt.free {x : Str} {t : Tok} {E I : Addr} {i : Nat} {h : Heap} (e : EnSt x t E I i h) : ∀ a ∈ [E, I], ∃ o, h.get? a = some o ∧ Free o := by
  intro a ha
  simp at ha
  rcases ha with rfl | rfl
  · obtain ⟨old, he⟩ := e.1; exact Free.enum he
  · obtain ⟨o, ho, hc, hd⟩ := e.2; exact ⟨o, ho, .fields hd⟩
theorem EnSt.keeps {x : Str} {t : Tok} {E I : Addr} {i : Nat} {h h' : Heap} (e : EnSt x t E I i h) (k : ∀ a ∈ [E, I], ∀ o, h.get? a = some o → h'.get? a = some o) : EnSt x t E I i h' := by
  obtain ⟨⟨old, he⟩, o, ho, hc, hd⟩ := e
  exact ⟨⟨old, k E (by simp) _ he⟩, o, k I (by simp) o ho, hc, hd⟩
variable {env : Env} {x : Str} {t : Tok} {E I : Addr} {s₀ s : Shared} {ρ : List Slot} {i : Nat}
theorem Frm.offE {wr : List Addr} {W : Fz} (F : Frm X (mask s₀ wr) X.W₀ env lay ρ W s) {a : Addr} (ha : a ∈ wr) : (mask s₀ wr).heap.get? a = none := by
  cases q : (mask s₀ wr).heap.get? a with
  | none => rfl
  | some o => exact absurd ha (mask_get.mp q).1
theorem Run.sep {W : Fz} (r : Run X lay env x t E I s₀ ρ i W s) (hE : W E = none) (hI : W I = none) : Sep (mask s₀ [env.locals, E, I]) env W s.heap [E, I] [] := by
  refine ⟨fun hw => ?_, fun a ha => r.F.offE (List.mem_cons_of_mem _ ha), fun a ha => ?_, r.en.free, fun g hg => by cases hg⟩
  · obtain ⟨m, o, es, ep, ho, hd, _⟩ := r.F.ns
    simp at hw
    rcases hw with e | e
    · obtain ⟨old, he⟩ := r.en.1
      rw [← e] at he
      have he' : s.heap.get? env.locals = some _ := he
      rw [ho] at he'; cases he'; cases hd
    · obtain ⟨o', ho', hc, hd'⟩ := r.en.2
      rw [← e, ho] at ho'; cases ho'
      rw [hd] at hd'; cases hd'
  · simp at ha
    rcases ha with rfl | rfl
    · exact hE
    · exact hI
theorem LoopSt.lock (h : LoopSt X lay env x t E I s₀ ρ i s) : LockSt X lay env x t E I s₀ ρ i s := by
  obtain ⟨W, r, hE, hI⟩ := h
  refine ⟨_, ⟨r.F.lock (r.sep hE hI), r.en⟩, fun a ha => ?_⟩
  obtain ⟨o, ho, hf⟩ := r.en.free a ha
  exact ⟨o, ho, by simp only [Fz.lock, ha, if_true]; exact ho, hf⟩
theorem LockSt.unlock (h : LockSt X lay env x t E I s₀ ρ i s) (hE : X.W₀ E = none) (hI : X.W₀ I = none) : LoopSt X lay env x t E I s₀ ρ i s := by
  obtain ⟨W, r, hf⟩ := h
  have h0 : ∀ a ∈ [E, I], X.W₀ a = none := fun a ha => by
    simp at ha
    rcases ha with rfl | rfl
    · exact hE
    · exact hI
  have hc : ∀ a ∈ [E, I], ∀ o, W a = some o → NoRep o := fun a ha o e => by
    obtain ⟨o', _, hW, hfr⟩ := hf a ha
    rw [hW] at e; cases e
    exact hfr.2
  exact ⟨W.drop [E, I], ⟨r.F.unlock (fun a ha => r.F.offE (List.mem_cons_of_mem _ ha)) h0 h0 hc, r.en⟩, by simp [Fz.drop], by simp [Fz.drop]⟩
theorem FastIn.step {W W' : Fz} {h h' : Heap} (f : FastIn E I W h) (le : W.le W') (g : Good W' h') : FastIn E I W' h' := fun a ha => by
  obtain ⟨o, _, hW, hf⟩ := f a ha
  exact ⟨o, g a o (le a o hW), le a o hW, hf⟩
theorem FastIn.same {W W' : Fz} {h h' : Heap} (f : FastIn E I W h) (le : W.le W') (g : Good W' h') : ∀ a ∈ [E, I], ∀ o, h.get? a = some o → h'.get? a = some o := fun a ha o ho => by
  obtain ⟨o', ho', hW, _⟩ := f a ha
  rw [ho] at ho'; cases ho'
  exact g a o (le a o hW)
theorem LockSt.kp (h : LockSt X lay env x t E I s₀ ρ i s) : Kp [env.locals, E, I] [] s₀ s := by
  obtain ⟨W, r, _⟩ := h
  exact ⟨fun a o ha e => r.F.res.stp.keep a o (mask_get.mpr ⟨ha, e⟩), r.F.res.stp.os, fun g y _ e => r.F.res.stp.gens g y e, r.F.res.stp.bare⟩
/-- woken later -/
theorem LockSt.woken {s'' : Shared} (h : LockSt X lay env x t E I s₀ ρ i s) (hf : FlatS ρ) (hl : ∀ (i : Nat) (y : Str), lay.slots[i]? = some y → env.kindOf y = some .local) (hE : X.W₀ E = none) (hI : X.W₀ I = none) (hL : X.W₀ env.locals = none)
    (g : Good X.W₀ s''.heap) (k : ∀ a ∈ [env.locals, E, I], ∀ o, s.heap.get? a = some o → s''.heap.get? a = some o) : LockSt X lay env x t E I s'' ρ i s'' := by
  obtain ⟨W, r, _⟩ := h
  have w := (r.F.waits hf hl).later g fun o ho => k _ (by simp) o ho
  refine LoopSt.lock ⟨X.W₀, ⟨w.frame (by simp) hL, r.en.keeps fun a ha o ho => k a (List.mem_cons_of_mem _ ha) o ho⟩, hE, hI⟩
theorem LockSt.free (h : LockSt X lay env x t E I s₀ ρ i s) : ∀ a ∈ [env.locals, E, I], ∃ o, s.heap.get? a = some o ∧ Free o := by
  obtain ⟨W, r, _⟩ := h
  intro a ha
  rcases List.mem_cons.mp ha with rfl | ha
  · obtain ⟨m, hm⟩ := r.F.ns; exact ns_noRep hm
  · exact r.en.free a ha
end
end Mine
end

section
open PySem PySem.W PySem.W.X PySem.W.ZRun PyProof.Rows
set_option Elab.async false
set_option autoImplicit false
set_option maxRecDepth 100000
namespace Mine

noncomputable def TupAt (X : Top0) (wr : List Addr) (s₀ s : Shared) (v : Value) (p : PV) : Prop := ∃ a o, v = .ref a ∧ s.heap.get? a = some o ∧ (∃ vs k, o.data = .seq vs k) ∧ (∀ W : Fz, W a = some o → Rep W v p) ∧ ((s₀.heap.get? a = none ∨ a ∈ wr) ∨ X.W₀ a = some o)
/-- the last flag -/
noncomputable def finalE : Bool → List Nat → Bool
  | e, [] => e
  | true, _ :: cs => finalE false cs
  | false, c :: cs => match Nat.beq c 92 with
    | true => finalE true cs
    | false => finalE false cs
theorem finalE_some : ∀ (cs : List Nat) (i : Nat) (e : Bool), finalE e cs = true → (escL i e cs).length ≠ 0
  | [], _, true, _ => by simp [escL]
  | [], _, false, h => by cases h
  | c :: cs, i, true, _ => by simp [escL]
  | c :: cs, i, false, h => by
    simp only [finalE] at h
    simp only [escL]
    cases hb : Nat.beq c 92 with
    | true => rw [hb] at h; exact finalE_some cs (i + 1) true h
    | false => simp
/-- what the generator may turn behind its turn -/
noncomputable def wrA (L E I : Addr) (z : Bool) (m : Nat) : List Addr := match z with
  | true => match m with
    | 0 => [L]
    | _ + 1 => [L, E, I]
  | false => [L, E, I]
noncomputable def escY (X : Top0) (L E I : Addr) (z : Bool) (out : List PV) : Protocol := fun m s₀ v s kap =>
  (∃ p, out[out.length - 1 - m]? = some p ∧ TupAt X [L, E, I] s₀ s v p) ∧ Kp [L, E, I] [] s₀ s ∧ Good X.W₀ s.heap ∧ (∀ a ∈ wrA L E I z m, ∃ o, s.heap.get? a = some o ∧ Free o) ∧
  ∀ s'' : Shared, (∀ a ∈ wrA L E I z m, ∀ o, s.heap.get? a = some o → s''.heap.get? a = some o) → Good X.W₀ s''.heap → kap (.send .none) s''
noncomputable def escP (L E I : Addr) (z : Bool) : Nat → Shared → Shared → Prop := fun n s₀ s₁ => n = 0 ∧ Kp (wrA L E I z 0) [] s₀ s₁
noncomputable abbrev escR (L E I : Addr) (z : Bool) : GenEnd := fun n s₀ r s₁ => r = .ok (.ret .none) ∧ escP L E I z n s₀ s₁

noncomputable def ρE (x : Str) (pk : Int) (e : Bool) (ch : Slot) : List Slot := [.val (.str x), .val (.int pk), .val (.bool e), ch]
noncomputable def chOk (ch : Slot) : Prop := ch = .unset ∨ ∃ c, ch = .val (.str ⟨#[c]⟩)
theorem flat_ρE {x : Str} {pk : Int} {e : Bool} {ch : Slot} (h : chOk ch) : FlatS (ρE x pk e ch) := by
  intro i q hq
  unfold ρE at hq
  rcases i with _ | _ | _ | _ | i
  · simp at hq; subst hq; exact .inr ⟨_, rfl, rfl⟩
  · simp at hq; subst hq; exact .inr ⟨_, rfl, rfl⟩
  · simp at hq; subst hq; exact .inr ⟨_, rfl, rfl⟩
  · simp at hq; subst hq
    rcases h with rfl | ⟨c, rfl⟩
    · exact .inl rfl
    · exact .inr ⟨_, rfl, rfl⟩
  · simp at hq
section
variable {X : Top0} {n : Nat} {lay : Lay}
theorem tupAt_of {env : Env} {ρ : List Slot} {W : Fz} {s₀ s : Shared} {wr : List Addr} {v : Value} {i : Int} {y : Str} (F : Frm X (mask s₀ wr) X.W₀ env lay ρ W s) (hv : Rep W v (.tup [.int i, .str y])) : TupAt X wr s₀ s v (.tup [.int i, .str y]) := by
  cases hv with
  | @tup a vs m _ e rs =>
    have hg := F.e.good _ _ e
    refine ⟨a, _, rfl, hg, ⟨_, _, rfl⟩, fun W' hW' => ?_, ?_⟩
    · obtain ⟨u, w, rfl, ru, rw'⟩ := rs.two
      exact .tup hW' (.cons (ru.flat rfl) (.cons (rw'.flat rfl) .nil))
    · cases h0 : X.W₀ a with
      | some o =>
        have := F.e.base a o h0
        rw [e] at this; cases this
        exact .inr rfl
      | none =>
        left
        have h1 := F.res.news a _ e h0
        by_cases hw : a ∈ wr
        · exact .inr hw
        · left
          cases q : s₀.heap.get? a with
          | none => rfl
          | some o =>
            have h2 : (mask s₀ wr).heap.get? a = some o := mask_get.mpr ⟨hw, q⟩
            rw [h2] at h1; cases h1

variable {A : Around} {env : Env} {x : Str} {t : Tok} {E I : Addr} {out : List PV} {es : List Expr} {kk : Nat} {tp pE pB p9 p10 p11 p12 : Pos} {tE tB e1 e2 e3 : Expr} {stF stT : Stmt} {dE dB : DenB} {d1 d2 d3 : Den} {DF DT : DenS} {upd : List Slot → PV → Option (List Slot)}
  {K : Flow → Sem PySem.Fin} {H : Value → Sem PySem.Fin} {c₀ : Code} {pz : Pos}

/-- the body's parts -/
structure EscBody (X : Top0) (n : Nat) (lay : Lay) (x : Str) (es : List Expr) (kk : Nat) (tp : Pos) (tE tB e1 e2 : Expr) (stF stT : Stmt) (dE dB : DenB) (d1 d2 : Den) (DF DT : DenS) (upd : List Slot → PV → Option (List Slot)) : Prop where
  ht : TgtOk X lay (.Tuple es kk tp) upd
  hE : TOk X n lay tE dE
  hB : TOk X n lay tB dB
  h1 : EOk X n lay e1 d1
  h2 : EOk X n lay e2 d2
  hF : StOk X n lay stF DF
  hT : StOk X n lay stT DT
  uE : ∀ (pk i : Int) (e : Bool) (ch : Slot) (c : Nat), upd (ρE x pk e ch) (.tup [.int i, .str ⟨#[c]⟩]) = some (ρE x i e (.val (.str ⟨#[c]⟩)))
  vE : ∀ (pk : Int) (e : Bool) (ch : Slot), dE (ρE x pk e ch) = some e
  vB : ∀ (pk : Int) (e : Bool) (c : Nat), dB (ρE x pk e (.val (.str ⟨#[c]⟩))) = some (Nat.beq c 92)
  v1 : ∀ (pk : Int) (e : Bool) (c : Nat), d1 (ρE x pk e (.val (.str ⟨#[c]⟩))) = some (.tup [.int pk, .str ⟨#[92, c]⟩])
  v2 : ∀ (pk : Int) (e : Bool) (c : Nat), d2 (ρE x pk e (.val (.str ⟨#[c]⟩))) = some (.tup [.int pk, .str ⟨#[c]⟩])
  vF : ∀ (pk : Int) (e : Bool) (ch : Slot), DF (ρE x pk e ch) = some (.next, ρE x pk false ch)
  vT : ∀ (pk : Int) (e : Bool) (ch : Slot), DT (ρE x pk e ch) = some (.next, ρE x pk true ch)

noncomputable abbrev escBody (pE pB p9 p10 p11 p12 : Pos) (tE tB e1 e2 : Expr) (stF stT : Stmt) : List Stmt :=
  [.If tE [.Expr (.Yield (some e1) p9) p10, stF] [.If tB [stT] [.Expr (.Yield (some e2) p11) p12] pB] pE]

theorem wpAny_noE {α : Type} {M : Model} {A : Around} {tr : Sem α} {Q : α → Shared → Prop} {E : Value → Shared → Prop} {s : Shared} (h : wpAny M A tr Q NoE s) : wpAny M A tr Q E s := wpAny_mono h (fun _ _ h => h) fun _ _ x => x.elim
theorem seg_yieldE {R : GenEnd} {Y : Protocol} {m : Nat} {s₀ : Shared} {c : Code} {fs : List Frame} {s : Shared} {gd : Bool → Bool} {lv : List Value → List Value} {b : Shared} {Wb W : Fz} {ρ : List Slot} {e : Expr} {d : Den} {p : PV} {yp sp : Pos}
    (h : EOk X n lay e d) (rm : Room (A.over c fs) n) (F : Frm X b Wb env lay ρ W s) (hd : d ρ = some p) (hfs : splitAtGen fs = none) (hgd : gd false = false) (hfg : fs.any Frame.guarded = false) (hco : env.scope.isCoroutine = false) (hint : interactive env = false)
    (hk : ∀ v s' W', Res W s W' s' → Rep W' v p → ∀ kap : Resume → Shared → Prop, (∀ s'', Seg (model X.prog X.w) A R Y m s'' c (K .next) fs s'' → kap (.send .none) s'') → Y m s₀ v s' kap) :
    Seg (model X.prog X.w) A R Y (m + 1) s₀ c ((exec (.Expr (.Yield (some e) yp) sp) env).wrap K H gd lv) fs s := by
  refine seg_Expr_Yield hfs hgd hfg (wpAny_noE ?_) hco hint
  exact h _ env W ρ s p _ rm F.e hd fun v s' W' r rp kap hkap => hk v s' W' r rp kap fun s'' hs => hkap .none s'' hs
theorem suffix_at {out pre : List PV} {p : PV} {l : List PV} (h : out = pre ++ p :: l) : out[out.length - 1 - l.length]? = some p := by
  subst h
  have : (pre ++ p :: l).length - 1 - l.length = pre.length := by simp <;> omega
  rw [this]; simp

theorem LockSt.go {s₀ s s' : Shared} {ρ ρ' : List Slot} {i : Nat} {W W' : Fz} (r : Run X lay env x t E I s₀ ρ i W s) (hf : FastIn E I W s.heap) (le : W.le W') (F' : Frm X (mask s₀ [env.locals, E, I]) X.W₀ env lay ρ' W' s') : LockSt X lay env x t E I s₀ ρ' i s' :=
  ⟨W', ⟨F', r.en.keeps (hf.same le F'.e.good)⟩, hf.step le F'.e.good⟩
theorem wrA_full {L E I : Addr} {z : Bool} {m : Nat} (h : z = true → m ≠ 0) : wrA L E I z m = [L, E, I] := by
  unfold wrA
  cases z with
  | false => rfl
  | true =>
    cases m with
    | zero => exact absurd rfl (h rfl)
    | succ m => rfl

theorem esc_turns (B : EscBody X n lay x es kk tp tE tB e1 e2 stF stT dE dB d1 d2 DF DT upd) (hEI : E ≠ I) (hE0 : X.W₀ E = none) (hI0 : X.W₀ I = none) (hL0 : X.W₀ env.locals = none) (hl : ∀ (i : Nat) (y : Str), lay.slots[i]? = some y → env.kindOf y = some .local)
    (hint : interactive env = false) (hco : env.scope.isCoroutine = false) (z : Bool) (c : Code) (hc : c = .forLoop (.Tuple es kk tp) (.ref E) (escBody pE pB p9 p10 p11 p12 tE tB e1 e2 stF stT) [] env) (fr : Frame) (hfr : fr = .ret (loopK env K H id id) none false [] c₀ pz [])
    (rm : Room (A.over c [fr]) n)
    (hend : ∀ (pk : Int) (e : Bool) (ch : Slot) (s₀ s : Shared) (W : Fz), chOk ch → (e = true → pk = Int.ofNat x.cps.size - 1) → e = z → (∃ pre, out = pre ++ escL x.cps.size e []) → Frm X (mask s₀ [env.locals, E, I]) X.W₀ env lay (ρE x pk e ch) W s →
      Seg (model X.prog X.w) A (escR env.locals E I z) (escY X env.locals E I z out) (escL x.cps.size e []).length s₀ c₀ (K .next) [] s) :
    ∀ (cs : List Nat) (i : Nat) (pk : Int) (e : Bool) (ch : Slot) (s₀ s : Shared), x.cps.toList.drop i = cs → i ≤ x.cps.size → chOk ch → (e = true → pk = Int.ofNat i - 1) → finalE e cs = z → (∃ pre, out = pre ++ escL i e cs) → LoopSt X lay env x t E I s₀ (ρE x pk e ch) i s →
      Seg (model X.prog X.w) A (escR env.locals E I z) (escY X env.locals E I z out) (escL i e cs).length s₀ c ((model X.prog X.w).den c) [fr] s := by
  subst hc
  have hsz : (signs x).length = x.cps.size := by simp [signs]
  have rm0 := rm.le (Nat.zero_le _)
  intro cs
  induction cs with
  | nil =>
    intro i pk e ch s₀ s hd hi hch hpk hz hsuf hst
    have hie : i = x.cps.size := by
      have := congrArg List.length hd
      simp at this
      lia
    subst hie
    obtain ⟨W, r, hWE, hWI⟩ := id hst
    refine seg_forLoop (wpAny_mono ((enFeed (es := es) (k := kk) (pos := tp) (x := x) (t := t) rm.handled hEI).done W s (fun s₁ => Seg (model X.prog X.w) A (escR env.locals E I z) (escY X env.locals E I z out) (escL x.cps.size e []).length s₀ (.block [] env) ((model X.prog X.w).den (.block [] env)) [fr] s₁) rm0 r.F.e.base r.F.e.good ?_ (r.sep hWE hWI).fz fun s' g kp => ?_) (fun r' s₁ h₁ => ?_) fun _ _ x => x.elim)
    · have := r.en.st (W := W) (by lia)
      rw [List.drop_of_length_le (by (apply Nat.le_of_eq; assumption))] at this
      exact this
    · subst hfr
      refine seg_block (seg_leaf (.ok .next) ?_)
      exact hend pk e ch s₀ s' W hch hpk hz hsuf (r.F.change (r.sep hWE hWI) .refl g (fun a o q1 q2 => by rw [q2] at q1; cases q1) kp)
    · obtain ⟨rfl, h₁⟩ := h₁
      exact h₁
  | cons c cs ih =>
    intro i pk e ch s₀ s hd hi hch hpk hz hsuf hst
    have hlt : i < x.cps.size := by
      rcases Nat.lt_or_ge i x.cps.size with h | h
      · exact h
      · rw [List.drop_of_length_le (by simpa using h)] at hd; cases hd
    have hdl : x.cps.toList.drop i = x.cps.toList[i]'(by simpa using hlt) :: x.cps.toList.drop (i + 1) := List.drop_eq_getElem_cons (by simpa using hlt)
    rw [hdl] at hd
    injection hd with hc hd
    have hsg : (signs x).drop i = .str ⟨#[c]⟩ :: (signs x).drop (i + 1) := by
      rw [List.drop_eq_getElem_cons (by lia)]
      congr 1
      simp only [signs, List.getElem_map]
      rw [hc]
    obtain ⟨W, r, hWE, hWI⟩ := id hst
    have hst0 : enS x t E I (.tup [.int (Int.ofNat i), .str ⟨#[c]⟩] :: enumFrom (i + 1) ((signs x).drop (i + 1))) W s := by
      have := r.en.st (W := W) (by lia)
      rw [hsg] at this
      exact this
    have S := r.sep hWE hWI
    refine seg_forLoop (wpAny_mono ((enFeed (es := es) (k := kk) (pos := tp) (x := x) (t := t) rm.handled hEI).item W s _ _ (fun v s₂ => wpAny (model X.prog X.w) (A.over (.forLoop (.Tuple es kk tp) (.ref E) (escBody pE pB p9 p10 p11 p12 tE tB e1 e2 stF stT) [] env) [fr]) (assign (.Tuple es kk tp) env v) (fun _ s₃ =>
          Seg (model X.prog X.w) A (escR env.locals E I z) (escY X env.locals E I z out) (escL i e (c :: cs)).length s₀ (.forLoop (.Tuple es kk tp) (.ref E) (escBody pE pB p9 p10 p11 p12 tE tB e1 e2 stF stT) [] env) ((execs (escBody pE pB p9 p10 p11 p12 tE tB e1 e2 stF stT) env).wrap (turnK (.forLoop (.Tuple es kk tp) (.ref E) (escBody pE pB p9 p10 p11 p12 tE tB e1 e2 stF stT) [] env)) (errW env) id id) [fr] s₃) NoE s₂) rm0 r.F.e.base r.F.e.good hst0 S.fz fun v s₁ W₁ le₁ g₁ news₁ kp₁ rv hst₁ ho₁ => ?_) (fun r' s₁ h₁ => ?_) fun _ _ x => x.elim)
    · have F₁ := r.F.change S le₁ g₁ news₁ kp₁
      have en₁ : EnSt x t E I (i + 1) s₁.heap := enS_at (by lia) hst₁
      have hfz₁ : ∀ a ∈ [E, I], W₁ a = none := fun a ha => by
        obtain ⟨o, ho, _⟩ := S.obj a ha
        cases e : W₁ a with
        | none => rfl
        | some o' => rw [news₁ a o' e (S.fz a ha)] at ho; cases ho
      have S₁ := (Run.mk F₁ en₁).sep (hfz₁ E (by simp)) (hfz₁ I (by simp))
      have FL := F₁.lock S₁
      have leL : W₁.le (W₁.lock [E, I] s₁.heap) := Fz.le_lock hfz₁
      have hf₁ : FastIn E I (W₁.lock [E, I] s₁.heap) s₁.heap := fun a ha => by
        obtain ⟨o, ho, hf⟩ := en₁.free a ha
        exact ⟨o, ho, by simp only [Fz.lock, ha, if_true]; exact ho, hf⟩
      refine B.ht _ _ X.W₀ env _ _ _ s₁ v _ _ rm0 FL (rv.mono leL) (B.uE pk (Int.ofNat i) e ch c) fun s₂ F₂ k₂ e₂ => ?_
      have hch₂ : chOk (.val (.str ⟨#[c]⟩)) := .inr ⟨c, rfl⟩
      have L₂ := LockSt.go ⟨FL, en₁⟩ hf₁ .refl F₂
      have next : ∀ (e' : Bool) (s₀' s' : Shared), finalE e' cs = z → (∃ pre, out = pre ++ escL (i + 1) e' cs) → LockSt X lay env x t E I s₀' (ρE x (Int.ofNat i) e' (.val (.str ⟨#[c]⟩))) (i + 1) s' →
          Seg (model X.prog X.w) A (escR env.locals E I z) (escY X env.locals E I z out) (escL (i + 1) e' cs).length s₀' (.forLoop (.Tuple es kk tp) (.ref E) (escBody pE pB p9 p10 p11 p12 tE tB e1 e2 stF stT) [] env) (.pure (.again (.forLoop (.Tuple es kk tp) (.ref E) (escBody pE pB p9 p10 p11 p12 tE tB e1 e2 stF stT) [] env))) [fr] s' :=
        fun e' s₀' s' hz' hsuf' L' => seg_again rfl (ih (i + 1) (Int.ofNat i) e' _ s₀' s' hd hlt hch₂ (fun _ => by show (i : Int) = ((i + 1 : Nat) : Int) - 1; lia) hz' hsuf' (L'.unlock hE0 hI0))
      obtain ⟨W₂, r₂, hf₂⟩ := L₂
      refine seg_execs_cons (seg_If B.hE rm r₂.F (B.vE _ _ _) fun s₃ W₃ le₃ F₃ k₃ => ?_)
      have L₃ := LockSt.go r₂ hf₂ le₃ F₃
      have r₃ : Run X lay env x t E I s₀ (ρE x (Int.ofNat i) e (.val (.str ⟨#[c]⟩))) (i + 1) W₃ s₃ := ⟨F₃, r₂.en.keeps (hf₂.same le₃ F₃.e.good)⟩
      obtain ⟨pre, hpre⟩ := hsuf
      cases e with
      | true =>
        simp only [finalE] at hz
        simp only [escL] at hpre
        have hm : z = true → (escL (i + 1) false cs).length ≠ 0 := fun q => finalE_some cs (i + 1) false (hz.trans q)
        have hsuf' : ∃ pre, out = pre ++ escL (i + 1) false cs := ⟨pre ++ [.tup [.int (Int.ofNat i), .str ⟨#[92, c]⟩]], by rw [hpre]; simp⟩
        rw [if_pos rfl]
        refine seg_execs_cons (seg_yieldE B.h1 rm F₃ (B.v1 _ _ _) (by subst hfr; rfl) rfl (by subst hfr; rfl) hco hint fun v₄ s₄ W₄ r₄ p₄ kap hkap => ?_)
        have F₄ := F₃.step r₄
        have L₄ : LockSt X lay env x t E I s₀ (ρE x (Int.ofNat i) true (.val (.str ⟨#[c]⟩))) (i + 1) s₄ := by
          obtain ⟨W₃', r₃', hf₃'⟩ := L₃
          exact LockSt.go r₃ (hf₂.step le₃ F₃.e.good) r₄.le F₄
        refine ⟨⟨_, suffix_at hpre, tupAt_of F₄ p₄⟩, L₄.kp, F₄.e.good0, fun a ha => L₄.free a (by rw [wrA_full hm] at ha; exact ha), fun s'' hk hg => hkap s'' ?_⟩
        rw [wrA_full hm] at hk
        obtain ⟨W₅, r₅, hf₅⟩ := L₄.woken (flat_ρE hch₂) hl hE0 hI0 hL0 hg hk
        exact seg_execs_cons (seg_st B.hF rm r₅.F (B.vF _ _ _) fun s₆ W₆ le₆ F₆ k₆ => next false s'' s₆ hz hsuf' (LockSt.go r₅ hf₅ le₆ F₆))
      | false =>
        rw [if_neg Bool.false_ne_true]
        refine seg_execs_cons (seg_If B.hB rm F₃ (B.vB _ _ _) fun s₄ W₄ le₄ F₄ k₄ => ?_)
        have hf₃ : FastIn E I W₃ s₃.heap := hf₂.step le₃ F₃.e.good
        have L₄ := LockSt.go r₃ hf₃ le₄ F₄
        have r₄ : Run X lay env x t E I s₀ (ρE x (Int.ofNat i) false (.val (.str ⟨#[c]⟩))) (i + 1) W₄ s₄ := ⟨F₄, r₃.en.keeps (hf₃.same le₄ F₄.e.good)⟩
        have hf₄ : FastIn E I W₄ s₄.heap := hf₃.step le₄ F₄.e.good
        simp only [finalE] at hz
        simp only [escL] at hpre ⊢
        cases hb : Nat.beq c 92 with
        | true =>
          rw [hb] at hz hpre
          rw [if_pos rfl]
          exact seg_execs_cons (seg_st B.hT rm F₄ (B.vT _ _ _) fun s₆ W₆ le₆ F₆ k₆ => next true s₀ s₆ hz ⟨pre, hpre⟩ (LockSt.go r₄ hf₄ le₆ F₆))
        | false =>
          rw [hb] at hz hpre
          rw [if_neg Bool.false_ne_true]
          have hm : z = true → (escL (i + 1) false cs).length ≠ 0 := fun q => finalE_some cs (i + 1) false (hz.trans q)
          have hsuf' : ∃ pre, out = pre ++ escL (i + 1) false cs := ⟨pre ++ [.tup [.int (Int.ofNat i), .str ⟨#[c]⟩]], by rw [hpre]; simp⟩
          refine seg_execs_cons (seg_yieldE B.h2 rm F₄ (B.v2 _ _ _) (by subst hfr; rfl) rfl (by subst hfr; rfl) hco hint fun v₅ s₅ W₅ r₅ p₅ kap hkap => ?_)
          have F₅ := F₄.step r₅
          have L₅ := LockSt.go r₄ hf₄ r₅.le F₅
          refine ⟨⟨_, suffix_at hpre, tupAt_of F₅ p₅⟩, L₅.kp, F₅.e.good0, fun a ha => L₅.free a (by rw [wrA_full hm] at ha; exact ha), fun s'' hk hg => hkap s'' ?_⟩
          rw [wrA_full hm] at hk
          have L'' := L₅.woken (flat_ρE hch₂) hl hE0 hI0 hL0 hg hk
          exact next false s'' s'' hz hsuf' L''
    · cases r' with
      | none => exact h₁.elim
      | some v => exact h₁
end
end Mine
end

section
open PySem PySem.W PySem.W.X PySem.W.ZRun PyProof.Rows
set_option Elab.async false
set_option autoImplicit false
set_option maxRecDepth 100000
namespace Mine
section
variable {X : Top0} {n : Nat} {lay : Lay} {A : Around} {env : Env} {x : Str} {t : Tok} {out : List PV} {es : List Expr} {kk : Nat} {tp pE pB p9 p10 p11 p12 p13 p14 pZ pF pc pn pa q1 q2 q3 q4 q5 q6 : Pos} {tE tB tZ e1 e2 e3 : Expr} {stF stT : Stmt} {dE dB dZ : DenB} {d1 d2 d3 : Den} {DF DT : DenS} {upd : List Slot → PV → Option (List Slot)}
  {R : GenEnd} {Y : Protocol} {m : Nat} {s₀ s : Shared} {c : Code} {fs : List Frame} {K : Flow → Sem PySem.Fin} {H : Value → Sem PySem.Fin} {gd : Bool → Bool} {lv : List Value → List Value} {b : Shared} {Wb W : Fz} {ρ : List Slot}

theorem seg_const {y : Str} {px pos : Pos} {e : Expr} {p : PV} (i : Nat) (hi : i < lay.wr) (hx : lay.slots[i]? = some y) (F : Frm X b Wb env lay ρ W s)
    (hev : ∀ (A : Around) (Q : Value → Shared → Prop), (∀ v tk, Rep W v p → Q v { s with toks := tk }) → wpAny (model X.prog X.w) A (eval e env) Q NoE s)
    (hs : swapsWith e (some (.Name y px)) pos.line env = pure false)
    (hk : ∀ s', Frm X b Wb env lay (ρ.set i (.val p)) W s' → s'.heap.objs.size = s.heap.objs.size → Seg (model X.prog X.w) A R Y m s₀ c (K .next) fs s') :
    Seg (model X.prog X.w) A R Y m s₀ c ((exec (.Assign [.Name y px] e pos) env).wrap K H gd lv) fs s := by
  refine seg_wrap (wpAny_noE (wpAny_Assign_Name (hev _ _ fun v tk rv => ?_) hs))
  have F' := F.step (Res.toks F.e.good tk)
  refine F'.store hi hx (fun q e => (Slot.val.inj e) ▸ rv) (fun l e => Slot.noConfusion e) fun c' h' tk' F'' hs' _ _ _ => ?_
  exact hk _ F'' hs'.1

/-- what the whole body is made of -/
structure EscFun (X : Top0) (n : Nat) (lay : Lay) (x : Str) (es : List Expr) (kk : Nat) (tp : Pos) (tE tB tZ e1 e2 e3 : Expr) (stF stT : Stmt) (dE dB dZ : DenB) (d1 d2 d3 : Den) (DF DT : DenS) (upd : List Slot → PV → Option (List Slot)) : Prop extends EscBody X n lay x es kk tp tE tB e1 e2 stF stT dE dB d1 d2 DF DT upd where
  hZ : TOk X n lay tZ dZ
  h3 : EOk X n lay e3 d3
  vZ : ∀ (pk : Int) (e : Bool) (ch : Slot), dZ (ρE x pk e ch) = some e
  v3 : ∀ (pk : Int) (e : Bool) (ch : Slot), d3 (ρE x pk e ch) = some (.tup [.int pk, .str ⟨#[92]⟩])
  s0 : lay.slots[0]? = some (Str.ofString "addr")
  s1 : lay.slots[1]? = some (Str.ofString "pos")
  s2 : lay.slots[2]? = some (Str.ofString "escape")
  w4 : lay.wr = 4
  en : lay.names.lookup (Str.ofString "enumerate") = some .globalImplicit
  eg : X.mg (Str.ofString "enumerate") = none
  eb : X.mb (Str.ofString "enumerate") = some (.type "enumerate")

noncomputable abbrev escFun (es : List Expr) (kk k1 k2 : Nat) (tp pE pB p9 p10 p11 p12 p13 p14 pZ pF pc pn pa q1 q2 q3 q4 q5 q6 : Pos) (tE tB tZ e1 e2 e3 : Expr) (stF stT : Stmt) : List Stmt :=
  [.Assign [.Name (Str.ofString "pos") q1] (.Constant (.int 0) k1 q2) q3, .Assign [.Name (Str.ofString "escape") q4] (.Constant (.bool false) k2 q5) q6,
   .For (.Tuple es kk tp) (.Call (.Name (Str.ofString "enumerate") pn) [.Name (Str.ofString "addr") pa] [] pc) (escBody pE pB p9 p10 p11 p12 tE tB e1 e2 stF stT) [] pF,
   .If tZ [.Expr (.Yield (some e3) p13) p14] [] pZ]

/-- the end behind the loop -/
theorem esc_end (B : EscFun X n lay x es kk tp tE tB tZ e1 e2 e3 stF stT dE dB dZ d1 d2 d3 DF DT upd) {E I : Addr} (hL0 : X.W₀ env.locals = none) (hl : ∀ (i : Nat) (y : Str), lay.slots[i]? = some y → env.kindOf y = some .local)
    (hint : interactive env = false) (hco : env.scope.isCoroutine = false) (z : Bool) (rm : Room (A.over c []) n) (hK : ∀ f : Flow, f = .next → K f = leafOf (.ok (.ret .none)))
    (pk : Int) (e : Bool) (ch : Slot) (s₀ s : Shared) (W : Fz) (hch : chOk ch) (hpk : e = true → pk = Int.ofNat x.cps.size - 1) (hz : e = z) (hsuf : ∃ pre, out = pre ++ escL x.cps.size e []) (F : Frm X (mask s₀ [env.locals, E, I]) X.W₀ env lay (ρE x pk e ch) W s) :
      Seg (model X.prog X.w) A (escR env.locals E I z) (escY X env.locals E I z out) (escL x.cps.size e []).length s₀ c ((execs [.If tZ [.Expr (.Yield (some e3) p13) p14] [] pZ] env).wrap K H id id) [] s := by
  have kpOf : ∀ {s : Shared} {W : Fz} {ρ : List Slot}, Frm X (mask s₀ [env.locals, E, I]) X.W₀ env lay ρ W s → Kp [env.locals, E, I] [] s₀ s := fun r => ⟨fun a o ha e => r.res.stp.keep a o (mask_get.mpr ⟨ha, e⟩), r.res.stp.os, fun g y _ e => r.res.stp.gens g y e, r.res.stp.bare⟩
  refine seg_execs_cons (seg_If B.hZ rm F (B.vZ _ _ _) fun s₁ W₁ le₁ F₁ k₁ => ?_)
  cases e with
  | true =>
    subst hz
    rw [if_pos rfl]
    obtain ⟨pre, hpre⟩ := hsuf
    simp only [escL] at hpre
    rw [← hpk rfl] at hpre
    refine seg_execs_cons (seg_yieldE B.h3 rm F₁ (B.v3 _ _ _) rfl rfl rfl hco hint fun v₂ s₂ W₂ r₂ p₂ kap hkap => ?_)
    have F₂ := F₁.step r₂
    have hfr : ∀ a ∈ [env.locals], ∃ o, s₂.heap.get? a = some o ∧ Free o := fun a ha => by
      rw [List.mem_singleton.mp ha]
      obtain ⟨m, hm⟩ := F₂.ns
      exact ns_noRep hm
    refine ⟨⟨_, suffix_at hpre, tupAt_of F₂ p₂⟩, kpOf F₂, F₂.e.good0, hfr, fun s'' hk hg => hkap s'' ?_⟩
    have w := (F₂.waits (flat_ρE hch) hl).later hg fun o ho => hk _ (by simp [wrA]) o ho
    show Seg _ A _ _ _ s'' c (K .next) [] s''
    rw [hK .next rfl]
    exact seg_end _ ⟨rfl, rfl, ⟨fun _ _ _ e => e, rfl, fun _ _ _ e => e, fun h => h⟩⟩
  | false =>
    subst hz
    rw [if_neg Bool.false_ne_true]
    show Seg _ A _ _ _ s₀ c (K .next) [] s₁
    rw [hK .next rfl]
    exact seg_end _ ⟨rfl, rfl, kpOf F₁⟩
end
end Mine
end

section
open PySem PySem.W PySem.W.X PySem.W.ZRun PyProof.Rows
set_option Elab.async false
set_option autoImplicit false
set_option maxRecDepth 100000
namespace Mine
section
variable {X : Top0} {n : Nat} {lay : Lay} {A : Around} {env : Env} {x : Str} {t : Tok} {out : List PV} {es : List Expr} {kk k1 k2 : Nat} {tp pE pB p9 p10 p11 p12 p13 p14 pZ pF pc pn pa q1 q2 q3 q4 q5 q6 : Pos} {tE tB tZ e1 e2 e3 : Expr} {stF stT : Stmt} {dE dB dZ : DenB} {d1 d2 d3 : Den} {DF DT : DenS} {upd : List Slot → PV → Option (List Slot)}
  {s : Shared}

theorem room_func {body : List Stmt} {env : Env} (h : Room A (n + 1)) : Room (A.over (.func body env) []) n := by
  refine ⟨h.handled, ?_, ?_⟩
  · have := h.depth
    have e : (A.over (.func body env) []).depth = A.depth + 0 + 1 := rfl
    rw [e]; lia
  · have := h.units
    have e : (A.over (.func body env) []).units = A.units + 0 + 3 := rfl
    rw [e]; lia
theorem room_loop {body body' : List Stmt} {tg : Expr} {it : Value} {env : Env} {k : Result → Sem PySem.Fin} {p : Pos} (h : Room A (n + 1)) : Room (A.over (.forLoop tg it body [] env) [.ret k none false [] (.func body' env) p []]) n := by
  refine ⟨?_, ?_, ?_⟩
  · have := h.handled
    show (marksOver _ (A.handled, A.handled)).1 = none
    rw [this]; rfl
  · have := h.depth
    have e : (A.over (.forLoop tg it body [] env) [.ret k none false [] (.func body' env) p []]).depth = A.depth + (1 + 0) + 0 := rfl
    rw [e]; lia
  · have := h.units
    have e : (A.over (.forLoop tg it body [] env) [.ret k none false [] (.func body' env) p []]).units = A.units + (3 + 0) + 0 := rfl
    rw [e]; lia

theorem esc_seg (B : EscFun X n lay x es kk tp tE tB tZ e1 e2 e3 stF stT dE dB dZ d1 d2 d3 DF DT upd) (hl : ∀ (i : Nat) (y : Str), lay.slots[i]? = some y → env.kindOf y = some .local) (hint : interactive env = false) (hco : env.scope.isCoroutine = false)
    (hL0 : X.W₀ env.locals = none) (rmA : Room A (n + 1)) (w : Waits X env lay [.val (.str x), .unset, .unset, .unset] s) :
    Seg (model X.prog X.w) A (escR env.locals (s.heap.objs.size + 1) s.heap.objs.size (finalE false x.cps.toList)) (escY X env.locals (s.heap.objs.size + 1) s.heap.objs.size (finalE false x.cps.toList) (escL 0 false x.cps.toList)) (escL 0 false x.cps.toList).length s
      (.func (escFun es kk k1 k2 tp pE pB p9 p10 p11 p12 p13 p14 pZ pF pc pn pa q1 q2 q3 q4 q5 q6 tE tB tZ e1 e2 e3 stF stT) env)
      ((model X.prog X.w).den (.func (escFun es kk k1 k2 tp pE pB p9 p10 p11 p12 p13 p14 pZ pF pc pn pa q1 q2 q3 q4 q5 q6 tE tB tZ e1 e2 e3 stF stT) env)) [] s := by
  have rm : ∀ {body : List Stmt}, Room (A.over (.func body env) []) n := fun {_} => room_func rmA
  have F₀ := w.frame (wr := [env.locals, s.heap.objs.size + 1, s.heap.objs.size]) (by simp) hL0
  have hW : ∀ a, s.heap.objs.size ≤ a → X.W₀ a = none := fun a ha => by
    cases q : X.W₀ a with
    | none => rfl
    | some o => exact absurd (Heap.lt_size (w.e.good a o q)) (Nat.not_lt.mpr ha)
  refine seg_func (seg_execs_cons (seg_const 1 (by rw [B.w4]; decide) B.s1 F₀ (p := .int 0) (fun A Q h => wpAny_Constant_int (h _ _ (.int _ _))) rfl fun s₁ F₁ z₁ => ?_))
  refine seg_execs_cons (seg_const 2 (by rw [B.w4]; decide) B.s2 F₁ (p := .bool false) (fun A Q h => Constant_bool (h _ _ (.bool _))) rfl fun s₂ F₂ z₂ => ?_)
  have hρ : (([Slot.val (.str x), .unset, .unset, .unset].set 1 (.val (.int 0))).set 2 (.val (.bool false))) = ρE x 0 false .unset := rfl
  rw [hρ] at F₂
  have zz : s₂.heap.objs.size = s.heap.objs.size := z₂.trans z₁
  obtain ⟨va, ha, ra⟩ := F₂.e.slot 0 (Str.ofString "addr") (.str x) B.s0 rfl
  obtain ⟨ta, rfl⟩ := ra.isStr
  refine seg_execs_cons (seg_For (fun _ => rfl) ?_)
  refine Call_ (name_blt F₂.e B.en B.eg B.eb ?_ (by decide)) rfl
  refine PyProof.Rows.callWith_type1 (spliced_more (wpAny_Name (loadName_is F₂.e.kind ha (spliced_none ?_)) (by decide)) rfl) rfl rfl
  refine call_enumerate_str fun h' he hit hsz hk => ?_
  rw [zz] at he hit hsz
  rw [zz]
  refine wpAny_pyIter_enum he fun p => ?_
  have F₃ := F₂.step (Res.heap (t := s₂.toks) F₂.e.good hk)
  have hE0 := hW (s.heap.objs.size + 1) (Nat.le_succ _)
  have hI0 := hW s.heap.objs.size (Nat.le_refl _)
  refine esc_turns (t := ta) B.toEscBody (Nat.succ_ne_self _) hE0 hI0 hL0 hl hint hco _ _ rfl _ rfl (room_loop rmA) (fun pk e ch s₀ s' W hch hpk hz hsuf F => ?_) x.cps.toList 0 0 false .unset s _ rfl (Nat.zero_le _) (.inl rfl) (fun q => by cases q) rfl ⟨[], rfl⟩ ⟨X.W₀, ⟨F₃, ⟨⟨_, he⟩, hit⟩⟩, hE0, hI0⟩
  exact esc_end B hL0 hl hint hco _ rm (fun f hf => by subst hf; rfl) pk e ch s₀ s' W hch hpk hz hsuf F
end
end Mine
end

section
open PySem PySem.W PySem.W.X PySem.W.ZRun PyProof.Rows
set_option Elab.async false
set_option autoImplicit false
set_option maxRecDepth 100000
namespace Mine
section
variable {prog : Program} {w : World} {A : Around} {E : Value → Shared → Prop} {s : Shared}
/-- a generator's next item, with its state bare -/
theorem next_gen {a : Addr} {g n : Nat} {gs : GenState} {P : Nat → Shared → Shared → Prop} {Y : Protocol} {Q : Option Value → Shared → Prop} (hh : A.handled = none) (hl : s.heap.NoLimit) (hroom : A.depth < recursionLimit)
    (hg : s.heap.IsGen a g) (hgs : s.gens[g]? = some gs) (hgo : gs.Goes (model prog w) A.in1 (fun n s₀ r s₁ => r = .ok (.ret .none) ∧ P n s₀ s₁) Y n (.send .none) (s.setGen g .running))
    (hY : ∀ v s₁ gs', gs'.bare = true → Y (n - 1) (s.setGen g .running) v s₁ (fun r' s'' => match n with
        | 0 => False
        | m + 1 => gs'.Goes (model prog w) A.in1 (fun n s₀ r s₁ => r = .ok (.ret .none) ∧ P n s₀ s₁) Y m r' s'') → Q (some v) (s₁.setGen g gs'))
    (hP : ∀ s₁, P n (s.setGen g .running) s₁ → ∀ h', (∀ b o, s₁.heap.get? b = some o → h'.get? b = some o) → Q none { s₁.setGen g .finished with heap := h' }) :
    wpAny (model prog w) A (pyNext (.ref a)) Q E s := by
  unfold pyNext
  refine wpAny_bind (wpAny_attempt (wpAny_callSpecial?_slot (name := Str.ofString "__next__") hg.typeIs slot_gen_next (wpAny_call_entry slot_gen_next hg.typeIs entry_gen_next ?_ (args_gen_next _))))
  show wpAny _ A.in1 (Builtin.Generator.genWake (.ref a) (.send .none)) _ _ s
  unfold Builtin.Generator.genWake
  refine wpAny_bind (wpAny_holding (wpAny_genNumber hg (wpAny_bind (wpAny_genState hgs ?_))))
  have woken : ∀ (hq : gs.Goes (model prog w) A.in1 (fun n s₀ r s₁ => r = .ok (.ret .none) ∧ P n s₀ s₁) Y n (.send .none) (s.setGen g .running)) {α : Type} {l : List Value} {k : GenResult → Sem α} {Q' : α → Shared → Prop} {E' : Value → Shared → Prop},
      (∀ s₁, P n (s.setGen g .running) s₁ → wpAny (model prog w) A.in1 (k (End.ret (.ok (.ret .none))).result) Q' E' (s₁.setGen g .finished)) →
      (∀ v s₁ gs', gs'.bare = true → Y (n - 1) (s.setGen g .running) v s₁ (fun r' s'' => match n with
        | 0 => False
        | m + 1 => gs'.Goes (model prog w) A.in1 (fun n s₀ r s₁ => r = .ok (.ret .none) ∧ P n s₀ s₁) Y m r' s'') → wpAny (model prog w) A.in1 (k (.yielded v)) Q' E' (s₁.setGen g gs')) →
      wpAny (model prog w) A.in1 (.resume g (.send .none) l k) Q' E' s := fun hq _ _ _ _ _ h1 h2 =>
    wpAny_resumeQ hgs hq (fun x s₁ hx => by obtain ⟨rfl, hp⟩ := hx; exact h1 s₁ hp) h2
  cases gs with
  | running => exact hgo.elim
  | finished => exact hgo.elim
  | _ =>
    refine wpAny_bind (wpAny_roomToWake hl hroom ?_)
    show wpAny _ A.in1 (.resume g (.send .none) [] _) _ _ s
    refine woken hgo (fun s₁ hp => ?_) (fun v s₁ gs' hb hv => wpAny_pure ⟨v, rfl, wpAny_pure (hY v s₁ gs' hb hv)⟩)
    show wpAny _ A.in1 (newExc (.type "StopIteration") [] >>= _) _ _ _
    refine wpAny_bind ?_
    simp only [newExc, newTuple]
    refine wpAny_bind (wpAny_newObj_type ?_ (by size_fits))
    refine wpAny_bind (m := firstArgMember _ _) (wpAny_of_eq (a := Value.none) (by first | rfl | (simp only [firstArgMember]; rfl)) ?_)
    refine wpAny_newObj_type ?_ (by size_fits)
    simp only [raiseNew]
    refine wpAny_bind (wpAny_bind (wpAny_handled ?_))
    first | rw [show A.in1.handled = none from hh] | rw [hh]
    refine wpAny_throw ?_
    refine wpAny_bind (wpAny_isInstance (T := "StopIteration") (b := true) ⟨_, Heap.get?_push_size _ rfl, rfl⟩ isSubtype_stop ?_)
    exact wpAny_pure (hP s₁ hp _ fun b o hb => Heap.get?_push_of_some _ (Heap.get?_push_of_some _ hb))
end

section
variable {X : Top0} {n : Nat} {lay : Lay}

/-- a generator at work: what is still to come -/
noncomputable def genSt (X : Top0) (A : Around) (L a : Addr) (g : Nat) (z : Bool) (out : List PV) : List PV → List Addr → Fz → Shared → Prop := fun l wr W s =>
  (∃ o nm qn, W a = some o ∧ o.cls = .type "generator" ∧ o.data = .fields #[.int g 0, nm, qn] ∧ o.slots = #[]) ∧ (∃ pre, out = pre ++ l) ∧ L ∈ wr ∧ ∃ gst, s.gens[g]? = some gst ∧
    ∀ s'' : Shared, (∀ a ∈ wr, ∀ o, s.heap.get? a = some o → s''.heap.get? a = some o) → Good X.W₀ s''.heap → ∃ E I, gst.Goes (model X.prog X.w) A.in1 (escR L E I z) (escY X L E I z out) l.length (.send .none) s'' ∧
      ∀ b ∈ wrA L E I z l.length, b ∈ wr ∨ s''.heap.get? b = none
theorem genSt.isGen {A : Around} {L a : Addr} {g : Nat} {z : Bool} {out l : List PV} {wr : List Addr} {W : Fz} {s : Shared} (h : genSt X A L a g z out l wr W s) (gd : Good W s.heap) : s.heap.IsGen a g := by
  obtain ⟨⟨o, nm, qn, h1, h2, h3, h4⟩, _⟩ := h
  exact ⟨o, nm, qn, gd _ _ h1, h2, h3, h4⟩
theorem gens_set {s : Shared} {g g' : Nat} {x : GenState} (h : g' ≠ g) : (s.setGen g x).gens[g']? = s.gens[g']? := by
  simp only [Shared.setGen]
  rw [Array.getElem?_setIfInBounds_ne (Ne.symm h)]
theorem bare_set {s : Shared} {g : Nat} {x : GenState} (h : AllBare s.gens) (hx : x.bare = true) : AllBare (s.setGen g x).gens := by
  intro y hy
  simp only [Shared.setGen] at hy
  obtain ⟨i, hi, rfl⟩ := Array.mem_iff_getElem.mp hy
  have hlt : i < s.gens.size := by simpa using hi
  rw [Array.getElem_setIfInBounds hlt]
  split
  · exact hx
  · exact h _ (Array.getElem_mem hlt)
theorem wrA_sub {L E I : Addr} {z : Bool} {m : Nat} : ∀ b ∈ wrA L E I z m, b ∈ [L, E, I] := by
  intro b hb
  unfold wrA at hb
  split at hb
  · split at hb
    · rw [List.mem_singleton.mp hb]; exact List.mem_cons_self ..
    · exact hb
  · exact hb
theorem wrA_L {L E I : Addr} {z : Bool} {m : Nat} : L ∈ wrA L E I z m := by
  unfold wrA
  split
  · split <;> simp
  · simp
theorem suffix_eq {out pre : List PV} {p q : PV} {l : List PV} (h : out = pre ++ p :: l) (hq : out[out.length - 1 - l.length]? = some q) : q = p := by
  rw [suffix_at h] at hq
  exact (Option.some.inj hq).symm
theorem feed_gen {A : Around} {es : List Expr} {k : Nat} {pos : Pos} {L a : Addr} {g : Nat} {z : Bool} {out : List PV} : FeedG X A (.Tuple es k pos) (.ref a) [g] (genSt X A L a g z out) where
  frame := by
    rintro l wr W W' s s' ⟨⟨o, nm, qn, h1, h2⟩, hsuf, hL, gst, hg, hgo⟩ gd le hwr hgs gd'
    refine ⟨⟨o, nm, qn, le _ _ h1, h2⟩, hsuf, hL, gst, hgs g (by simp) _ hg, fun s'' hk hgd => ?_⟩
    exact hgo s'' (fun b hb o ho => hk b hb o (hwr b hb o ho)) hgd
  item := by
    intro W s p l wr Q rm hb gd hst hfz hfr hQ
    have hig := hst.isGen gd
    obtain ⟨⟨o, nm, qn, h1, h2⟩, ⟨pre, hpre⟩, hL, gst, hg, hgo⟩ := hst
    have gd0 : Good X.W₀ s.heap := fun b o e => gd b o (hb b o e)
    obtain ⟨E, I, hgo, hwr⟩ := hgo (s.setGen g .running) (fun b _ o ho => ho) gd0
    have hw3 : wrA L E I z (p :: l).length = [L, E, I] := wrA_full fun _ => by simp
    rw [hw3] at hwr
    have hwr : ∀ b ∈ [L, E, I], b ∈ wr ∨ s.heap.get? b = none := hwr
    have hWn : ∀ b ∈ [L, E, I], W b = none := fun b hb => by
      rcases hwr b hb with h | h
      · exact hfz b h
      · cases q : W b with
        | none => rfl
        | some o' => rw [gd b o' q] at h; cases h
    refine next_gen (P := escP L E I z) (Y := escY X L E I z out) rm.handled (X.lim _ gd0) (by have := rm.depth; unfold recursionLimit; lia) hig hg hgo (fun v s₁ gs' hbare hv => ?_) (fun s₁ hp => ?_)
    · obtain ⟨⟨p', hp', a', o', rfl, ho', hseq, hrep, hfresh⟩, kp, hg1, hfree, hkap⟩ := hv
      have hpp : p' = p := suffix_eq hpre (by simpa using hp')
      subst hpp
      have kpo : ∀ b o, b ∉ [L, E, I] → s.heap.get? b = some o → s₁.heap.get? b = some o := kp.keep
      have ha : s₁.heap.get? a = some o := kpo a o (fun hm => by rw [hWn a hm] at h1; cases h1) (gd _ _ h1)
      show wpAny _ A (letOwnedTupleGo _ (.ref a) (.ref a')) _ _ _
      refine letOwned_no (o := o) ha h2.1 (by decide) ?_
      have gset : ∀ W' : Fz, Good W' s₁.heap → Good W' (s₁.setGen g gs').heap := fun _ h => h
      have gd₁ : Good W s₁.heap := fun b ob e => kpo b ob (fun hm => by rw [hWn b hm] at e; cases e) (gd b ob e)
      have hseqn : ∀ b ∈ wrA L E I z l.length, b ≠ a' := fun b hb q => by
        obtain ⟨ob, hob, hf⟩ := hfree b hb
        obtain ⟨vs, kk, hs⟩ := hseq
        rw [q, ho'] at hob
        cases hob
        exact hf.2.1 _ _ hs
      have kpAll : Kp wr [g] s (s₁.setGen g gs') := by
        refine ⟨fun b ob hb e => ?_, kp.os, fun g' y hg' e => ?_, fun hbr => ?_⟩
        · refine kpo b ob (fun hm => ?_) e
          rcases hwr b hm with h | h
          · exact hb h
          · rw [h] at e; cases e
        · have hne : g' ≠ g := fun q => hg' (by simp [q])
          rw [gens_set hne]
          exact kp.gens g' y (by simp) (by rw [gens_set hne]; exact e)
        · exact bare_set (kp.bare (bare_set hbr rfl)) hbare
      have hgg : (s₁.setGen g gs').gens[g]? = some gs' := by
        refine setGen_self (gs := .running) (kp.gens g _ (by simp) (setGen_self hg))
      have stN : ∀ W' : Fz, W'.le W' → W.le W' → genSt X A L a g z out l (wrA L E I z l.length) W' (s₁.setGen g gs') := fun W' _ le =>
        ⟨⟨o, nm, qn, le _ _ h1, h2⟩, ⟨pre ++ [p'], by rw [hpre]; simp⟩, wrA_L, gs', hgg, fun s'' hk hgd => ⟨E, I, hkap s'' hk hgd, fun b hb => .inl hb⟩⟩
      have sub : ∀ b ∈ wrA L E I z l.length, b ∈ wr ∨ s.heap.get? b = none := fun b hb => hwr b (wrA_sub b hb)
      by_cases hin : X.W₀ a' = some o'
      · refine hQ (.ref a') _ W (wrA L E I z l.length) .refl (gset _ gd₁) (fun b ob q1 q2 => by rw [q2] at q1; cases q1) kpAll (hrep W (hb _ _ hin)) (stN W .refl .refl) sub hfree fun b hb => hWn b (wrA_sub b hb)
      · have hfr' : s.heap.get? a' = none ∨ a' ∈ [L, E, I] := by
          rcases hfresh with h | h
          · exact h
          · exact absurd h hin
        have hWa : W a' = none := by
          rcases hfr' with h | h
          · cases q : W a' with
            | none => rfl
            | some o2 => rw [gd _ _ q] at h; cases h
          · exact hWn _ h
        refine hQ (.ref a') _ (W.add a' o') (wrA L E I z l.length) (Fz.le_add hWa) (gset _ (gd₁.add ho')) (fun b ob q1 q2 => ?_) kpAll (hrep _ Fz.add_self) (stN _ .refl (Fz.le_add hWa)) sub hfree fun b hb => ?_
        · by_cases hb' : b = a'
          · subst hb'
            rcases hfr' with h | h
            · exact .inl h
            · exact (hwr _ h).symm
          · rw [Fz.add_ne hb', q2] at q1; cases q1
        · rw [Fz.add_ne (hseqn b hb)]; exact hWn b (wrA_sub b hb)
    · exact absurd hp.1 (by simp)
  done := by
    intro W s wr Q rm hb gd hst hfz hfr hQ
    have hig := hst.isGen gd
    obtain ⟨⟨o, nm, qn, h1, h2⟩, ⟨pre, hpre⟩, hL, gst, hg, hgo⟩ := hst
    have gd0 : Good X.W₀ s.heap := fun b o e => gd b o (hb b o e)
    obtain ⟨E, I, hgo, hwr⟩ := hgo (s.setGen g .running) (fun b _ o ho => ho) gd0
    have hwr : ∀ b ∈ wrA L E I z 0, b ∈ wr ∨ s.heap.get? b = none := hwr
    refine next_gen (P := escP L E I z) (Y := escY X L E I z out) rm.handled (X.lim _ gd0) (by have := rm.depth; unfold recursionLimit; omega) hig hg hgo (fun v s₁ gs' hbare hv => ?_) (fun s₁ hp h' hk => ⟨rfl, ?_⟩)
    · exfalso
      obtain ⟨⟨p', hp', a', o', rfl, ho', hseq, hrep, hfresh⟩, kp, hg1, hfree, hkap⟩ := hv
      exact hkap s₁ (fun _ _ _ e => e) hg1
    · obtain ⟨_, kp⟩ := hp
      have hWn : ∀ b ∈ wrA L E I z 0, W b = none := fun b hb => by
        rcases hwr b hb with h | h
        · exact hfz b h
        · cases q : W b with
          | none => rfl
          | some o' => rw [gd b o' q] at h; cases h
      have kpo : ∀ b o, b ∉ wrA L E I z 0 → s.heap.get? b = some o → h'.get? b = some o := fun b o hb e => hk b o (kp.keep b o hb e)
      refine hQ _ (fun b ob e => kpo b ob (fun hm => by rw [hWn b hm] at e; cases e) (gd b ob e)) ⟨fun b ob hb e => ?_, kp.os, fun g' y hg' e => ?_, fun hbr => ?_⟩
      · refine kpo b ob (fun hm => ?_) e
        rcases hwr b hm with h | h
        · exact hb h
        · rw [h] at e; cases e
      · have hne : g' ≠ g := fun q => hg' (by simp [q])
        show (s₁.setGen g .finished).gens[g']? = _
        rw [gens_set hne]
        exact kp.gens g' y (by simp) (by rw [gens_set hne]; exact e)
      · exact bare_set (s := s₁) (kp.bare (bare_set hbr rfl)) rfl
end
end Mine
end

section
open PySem PySem.W PySem.W.X PySem.W.ZRun PyProof.Rows
set_option Elab.async false
set_option autoImplicit false
set_option maxRecDepth 100000
namespace Mine
section
variable {X : Top0} {n : Nat} {lay layE : Lay} {es : List Expr} {kk k1 k2 : Nat} {tp pE pB p9 p10 p11 p12 p13 p14 pZ pF pc pn pa q1 q2 q3 q4 q5 q6 : Pos} {tE tB tZ e1 e2 e3 : Expr} {stF stT : Stmt} {dE dB dZ : DenB} {d1 d2 d3 : Den} {DF DT : DenS} {upd : List Slot → PV → Option (List Slot)}

noncomputable def sGen (d : Den) : Dens := fun ρ => match d ρ with
  | some (.str x) => some (escL 0 false x.cps.toList)
  | _ => none
theorem src_gen {f : Str} {fa : Addr} {o : Obj} {params : Arguments} {body : List Stmt} {scope : Scope} {pm cd doc : Value} {es' : List Expr} {k' : Nat} {pos' p pos : Pos} {e : Expr} {d : Den} (hn5 : 5 ≤ n)
    (hx : lay.names.lookup f = some .globalImplicit) (hv : X.mg f = some (.ref fa)) (ho : X.W₀ fa = some o) (hd : o.data = .func (Calls.docDef f params body scope pm cd doc)) (hcd : ∀ h, Good X.W₀ h → h.CodeRec cd f)
    (hbind : ∀ v, bindArgs (Calls.docDef f params body scope pm cd doc) ⟨[v], []⟩ = pure [(Str.ofString "addr", v)])
    (hb : body = escFun es kk k1 k2 tp pE pB p9 p10 p11 p12 p13 p14 pZ pF pc pn pa q1 q2 q3 q4 q5 q6 tE tB tZ e1 e2 e3 stF stT)
    (B : ∀ x, EscFun X 0 layE x es kk tp tE tB tZ e1 e2 e3 stF stT dE dB dZ d1 d2 d3 DF DT upd)
    (hk : scope.kind = .function) (hgen : scope.isGenerator = true) (hco : scope.isCoroutine = false) (hnm : scope.names = layE.names) (hnc : ∀ y ∈ scope.names, y.2 ≠ .cell) (hloc : ∀ y ∈ layE.slots, scope.names.lookup y = some .local) (hnd : layE.slots.Nodup)
    (h : EOk X n lay e d) (hs : ∀ env, starEach [e] env = [(false, eval e env)] := by intro _; rfl) (hdb : (f == ("__debug__" : Str)) = false := by decide) : SrcOkG X n lay (.Tuple es' k' pos') (.Call (.Name f p) [e] [] pos) (sGen d) := by
  intro A env W ρ s l Q rm eo hd' hQ
  unfold sGen at hd'
  split at hd' <;> try (cases hd'; done)
  rename_i x hxd
  cases hd'
  refine Call_ (name_glob eo hx hv ?_ hdb) rfl
  refine callWith_def hd (spliced_more (h A env W ρ s (.str x) _ rm eo hxd fun v s₁ W₁ r₁ p₁ => spliced_none ?_) (hs env)) (hs env)
  have e₁ := eo.res r₁
  have g1 := e₁.good0
  refine ⟨g1 _ _ ho, ?_⟩
  obtain ⟨tx, rfl⟩ := p₁.isStr
  refine wpAny_call (codeAny_call_generator (by have := rm.depth; unfold recursionLimit; lia) (g1 _ _ ho) hd hco hgen rfl (hcd _ g1) ?_)
  refine wpAny_of_eq (hbind _) ?_
  refine wpAny_newFunctionEnv hnc (by
    intro y hy
    rw [List.mem_singleton.mp hy]
    exact hloc _ (List.mem_of_getElem? (B x).s0)) (fun h₁ hns hsb => ?_) hk
  have hsz1 : h₁.objs.size = s₁.heap.objs.size + 1 := by rw [hsb.1, Heap.size_push]
  have k1' : ∀ b o, s₁.heap.get? b = some o → h₁.get? b = some o := fun b ob e => hsb.extBut b ob (Nat.ne_of_lt (Heap.lt_size e)) (Heap.get?_push_of_some _ e)
  have gh1 : Good X.W₀ h₁ := fun b ob e => k1' b ob (g1 b ob e)
  refine ⟨X.lim _ gh1, ?_⟩
  have sz1 : s₁.heap.objs.size < h₁.objs.size := by rw [hsz1]; exact Nat.lt_succ_self _
  have fresh₁ : ∀ b, s₁.heap.objs.size ≤ b → s₁.heap.get? b = none := fun b hb => by
    cases q : s₁.heap.get? b with
    | none => rfl
    | some o => exact absurd (Heap.lt_size q) (Nat.not_lt.mpr hb)
  have freshW : ∀ b, s₁.heap.objs.size ≤ b → W₁ b = none := fun b hb => by
    cases q : W₁ b with
    | none => rfl
    | some o => have := r₁.good b o q; rw [fresh₁ b hb] at this; cases this
  have hL0 : X.W₀ s₁.heap.objs.size = none := by
    cases q : X.W₀ s₁.heap.objs.size with
    | none => rfl
    | some ob => have := e₁.base _ _ q; rw [freshW _ (Nat.le_refl _)] at this; cases this
  show wpAny _ A (pyIter (.ref h₁.objs.size)) Q NoE _
  have ho' : ∀ (ob : Obj), ob.isFreed = false → (h₁.push ob).get? h₁.objs.size = some ob := fun ob hf => Heap.get?_push_size _ hf
  refine wpAny_pyIter_gen (g := s₁.gens.size) ⟨_, _, _, ho' _ rfl, rfl, rfl, rfl⟩ ?_
  have hWa : W₁ h₁.objs.size = none := freshW _ (Nat.le_of_lt sz1)
  refine hQ _ _ (W₁.add h₁.objs.size _) [s₁.heap.objs.size] [s₁.gens.size] (genSt X A s₁.heap.objs.size h₁.objs.size s₁.gens.size (finalE false x.cps.toList) (escL 0 false x.cps.toList))
    (r₁.trans ⟨Fz.le_add hWa, Good.add (a := h₁.objs.size) (fun b ob e => Heap.get?_push_of_some _ (k1' b ob (r₁.good b ob e))) (ho' _ rfl), ⟨fun b ob e => Heap.get?_push_of_some _ (k1' b ob e), rfl, fun i y e => ?_, fun hbr => hbr.push rfl⟩, fun b ob q1 q2 => ?_⟩) feed_gen
    ⟨⟨_, _, _, Fz.add_self, rfl, rfl, rfl⟩, ⟨[], rfl⟩, by simp, _, Array.getElem?_push_size .., fun s'' hk' hg => ⟨s''.heap.objs.size + 1, s''.heap.objs.size, ⟨rfl, ?_⟩, fun b hb' => ?_⟩⟩
    (OwnIt.back r₁.stp ⟨fun b hb' => ?_, fun b hb' => ?_, fun b hb' => ?_, fun i hi => ?_⟩)
  · show (s₁.gens.push _)[i]? = _
    have := (Array.getElem?_eq_some_iff.mp e).1
    rw [Array.getElem?_push_lt this]
    rw [Array.getElem?_eq_getElem this] at e
    exact e
  · by_cases hbb : b = h₁.objs.size
    · rw [hbb]; exact fresh₁ _ (Nat.le_of_lt sz1)
    · rw [Fz.add_ne hbb, q2] at q1; cases q1
  · subst hb
    have hlocal : ∀ (i : Nat) (y : Str), layE.slots[i]? = some y → scope.names.lookup y = some .local := fun i y hy => hloc y (List.mem_of_getElem? hy)
    have hns'' : s''.heap.Ns s₁.heap.objs.size (fun y => [(Str.ofString "addr", Value.str x tx)].reverse.lookup y) := by
      exact hns.at' fun ob hob => hk' _ (by simp) ob (Heap.get?_push_of_some _ hob)
    refine esc_seg (A := A.in1) (env := newEnv scope s₁.heap.objs.size mainGlobals [] (f ++ Str.ofString ".<locals>.") (some fa) cd none builtinsNs) (B x) (fun i y hy => hlocal i y hy) ?_ hco hL0 ⟨rm.handled, ?_, ?_⟩ ⟨⟨hg, .refl, hk, rfl, rfl, hnm, fun y hy => ?_, fun i y q hy hq => ?_⟩, ⟨_, hns''⟩, ?_, fun i y hy => hlocal i y hy, fun i j y hi hj => ?_⟩
    · show (scope.kind == .module && _) = false
      rw [hk]; rfl
    · have := rm.depth
      show A.depth + (0 + 1) < 900
      lia
    · have := rm.units
      show A.units + 1 + 20 * (0 + 1) < 9000
      lia
    · exfalso
      rw [← hnm] at hy
      exact hnc _ (mem_of_lookup hy) rfl
    · rcases i with _ | _ | _ | _ | i <;> simp at hq
      subst hq
      rw [(B x).s0] at hy
      cases hy
      exact ⟨.str x tx, .inl ⟨hlocal 0 _ (B x).s0, _, hns'', by simp [List.lookup]⟩, .str _ _⟩
    · intro i q hq
      rcases i with _ | _ | _ | _ | i <;> simp at hq
      · subst hq; exact .inr ⟨_, rfl, rfl⟩
      · subst hq; exact .inl rfl
      · subst hq; exact .inl rfl
      · subst hq; exact .inl rfl
    · obtain ⟨a1, b1⟩ := List.getElem?_eq_some_iff.mp hi
      obtain ⟨a2, b2⟩ := List.getElem?_eq_some_iff.mp hj
      have hp := List.pairwise_iff_getElem.mp hnd
      rcases Nat.lt_trichotomy i j with q | q | q
      · exact absurd (b1.trans b2.symm) (hp i j a1 a2 q)
      · exact q
      · exact absurd (b2.trans b1.symm) (hp j i a2 a1 q)
  · have h3 := wrA_sub b hb'
    simp only [List.mem_cons, List.not_mem_nil, or_false] at h3
    have fr : ∀ b, s''.heap.objs.size ≤ b → s''.heap.get? b = none := fun b hb => by
      cases q : s''.heap.get? b with
      | none => rfl
      | some o => exact absurd (Heap.lt_size q) (Nat.not_lt.mpr hb)
    rcases h3 with rfl | rfl | rfl
    · exact .inl (by simp)
    · exact .inr (fr _ (Nat.le_succ _))
    · exact .inr (fr _ (Nat.le_refl _))
  · rw [List.mem_singleton.mp hb']; exact fresh₁ _ (Nat.le_refl _)
  · rw [List.mem_singleton.mp hb', Fz.add_ne (Nat.ne_of_lt sz1)]; exact freshW _ (Nat.le_refl _)
  · rw [List.mem_singleton.mp hb']
    exact ns_noRep (hns.at' fun ob hob => Heap.get?_push_of_some _ hob)
  · rw [List.mem_singleton.mp hi]; simp
end
end Mine
end

section
open PySem PySem.W PyProof.Rows
set_option Elab.async false
set_option autoImplicit false
set_option maxRecDepth 100000
namespace Mine

/- the machine run on -/
theorem run_out : ∀ (k : Nat) (m : Sre.M), m.outcome.isSome = true → Sre.M.runFor k m = m
  | 0, _, _ => rfl
  | k + 1, m, h => by simp [Sre.M.runFor, h]
theorem run_add : ∀ (a b : Nat) (m : Sre.M), Sre.M.runFor (a + b) m = Sre.M.runFor b (Sre.M.runFor a m)
  | 0, b, m => by simp [Sre.M.runFor]
  | a + 1, b, m => by
    rw [Nat.add_right_comm]
    show (if m.outcome.isSome then m else Sre.M.runFor (a + b) m.step) = Sre.M.runFor b (if m.outcome.isSome then m else Sre.M.runFor a m.step)
    cases h : m.outcome.isSome with
    | true => rw [if_pos rfl, if_pos rfl, run_out b m h]
    | false => rw [if_neg Bool.false_ne_true, if_neg Bool.false_ne_true, run_add a b]
/-- comes to an end within so many steps -/
noncomputable def Ends (k : Nat) (m : Sre.M) (P : Sre.M → Prop) : Prop := ∃ j, j ≤ k ∧ (Sre.M.runFor j m).outcome.isSome = true ∧ P (Sre.M.runFor j m)
theorem Ends.step {k : Nat} {m : Sre.M} {P : Sre.M → Prop} (h0 : m.outcome = none) (h : Ends k m.step P) : Ends (k + 1) m P := by
  obtain ⟨j, hj, h1, h2⟩ := h
  have : Sre.M.runFor (j + 1) m = Sre.M.runFor j m.step := by simp [Sre.M.runFor, h0]
  exact ⟨j + 1, Nat.succ_le_succ hj, by rw [this]; exact h1, by rw [this]; exact h2⟩
theorem Ends.here {k : Nat} {m : Sre.M} {P : Sre.M → Prop} (h : m.outcome.isSome = true) (hp : P m) : Ends k m P := ⟨0, Nat.zero_le _, h, hp⟩
theorem Ends.le {k k' : Nat} {m : Sre.M} {P : Sre.M → Prop} (h : Ends k m P) (hk : k ≤ k') : Ends k' m P := let ⟨j, h1, h2⟩ := h; ⟨j, Nat.le_trans h1 hk, h2⟩

/- dots at the start of a line -/
noncomputable def C1 : Array Nat := #[14, 4, 0, 1, 1, 6, 1, 16, 46, 1]
noncomputable def T1 (text : Array Nat) (s : Nat) (seen : Sre.Seen) (om : Bool) : Sre.M :=
  { code := C1, text, lim := text.size, start := s, lastStart := text.size, pc := 5, pos := s, handed := s, outermost := om, marks := #[], frames := [{ wait := .nextStart, pc := 5, pos := s, outermost := om }], weight := 1, seen }
noncomputable def bol (text : Array Nat) (s : Nat) : Bool := s == 0 || text.getD (s - 1) 0 == 10
section
variable {text : Array Nat} {s : Nat} {seen : Sre.Seen} {om : Bool}
theorem a1 : (T1 text s seen om).step = if bol text s = true then { T1 text s ((seen.add 6).add 44) om with pc := 7 } else { T1 text s ((seen.add 6).add 44) om with answer := some false } := rfl
theorem a2 : ({ T1 text s seen om with pc := 7 } : Sre.M).step = if s ≥ text.size then { T1 text s (seen.add 16) om with pc := 7, answer := some false } else
  match Sre.accepts C1 7 (text.getD s 0) (seen.add 16) with
  | .error why => ({ T1 text s (seen.add 16) om with pc := 7 } : Sre.M).stick why
  | .ok (false, seen) => { T1 text s seen om with pc := 7, answer := some false }
  | .ok (true, seen) => { T1 text s seen om with pc := 9, pos := s + 1 } := rfl
theorem a2' {c : Nat} : Sre.accepts C1 7 c seen = .ok (c == 46, seen) := rfl
theorem a3 : ({ T1 text s seen om with pc := 9, pos := s + 1 } : Sre.M).step = { T1 text s (seen.add 1) om with pc := 9, pos := s + 1, handed := s + 1, answer := some true } := by
  cases om <;> rfl
theorem a4 : ({ T1 text s seen om with pc := 9, pos := s + 1, handed := s + 1, answer := some true } : Sre.M).step = { T1 text s seen om with pc := 5, pos := s, handed := s + 1, answer := some true, frames := [], weight := 0 } := rfl
theorem a5 : ({ T1 text s seen om with pc := 5, pos := s, handed := s + 1, answer := some true, frames := [], weight := 0 } : Sre.M).step = { T1 text s seen om with pc := 5, pos := s, handed := s + 1, answer := some true, frames := [], weight := 0, outcome := some .matched } := rfl
theorem a6 {p : Nat} : ({ T1 text s seen om with pc := p, answer := some false } : Sre.M).step = if s < text.size then T1 text (s + 1) seen false else { T1 text s seen om with pc := 5, answer := some false, frames := [], weight := 0 } := rfl
theorem a7 : ({ T1 text s seen om with pc := 5, answer := some false, frames := [], weight := 0 } : Sre.M).step = { T1 text s seen om with pc := 5, answer := some false, frames := [], weight := 0, outcome := some .failed } := rfl

/-- the first dot at a line's start -/
noncomputable def isDot (text : Array Nat) (s : Nat) : Bool := bol text s && text.getD s 0 == 46
noncomputable def Hit (s e : Nat) (m : Sre.M) : Prop := m.outcome = some .matched ∧ m.start = s ∧ m.handed = e
noncomputable def Miss (m : Sre.M) : Prop := m.outcome = some .failed
theorem dot_here {seen : Sre.Seen} {om : Bool} (h : isDot text s = true) (hs : s < text.size) : Ends 5 (T1 text s seen om) (Hit s (s + 1)) := by
  unfold isDot at h
  rw [Bool.and_eq_true] at h
  refine Ends.step rfl ?_
  rw [a1, if_pos h.1]
  refine Ends.step rfl ?_
  rw [a2, if_neg (by (apply Nat.not_le.mpr; assumption)), a2', h.2]
  refine Ends.step rfl ?_
  rw [a3]
  refine Ends.step rfl ?_
  rw [a4]
  refine Ends.step rfl ?_
  rw [a5]
  exact Ends.here rfl ⟨rfl, rfl, rfl⟩
theorem dot_next {seen : Sre.Seen} {om : Bool} {k : Nat} {P : Sre.M → Prop} (h : isDot text s = false ∨ text.size ≤ s) (hs : s < text.size) (hP : ∀ seen, Ends k (T1 text (s + 1) seen false) P) : Ends (k + 3) (T1 text s seen om) P := by
  have h : isDot text s = false := h.resolve_right (by (apply Nat.not_le.mpr; assumption))
  unfold isDot at h
  refine Ends.step (k := k + 2) rfl ?_
  rw [a1]
  cases hb : bol text s with
  | false =>
    rw [if_neg Bool.false_ne_true]
    refine Ends.le (Ends.step (k := k) rfl ?_) (Nat.le_succ _)
    rw [show ({ T1 text s ((seen.add 6).add 44) om with answer := some false } : Sre.M) = { T1 text s ((seen.add 6).add 44) om with pc := 5, answer := some false } from rfl, a6, if_pos hs]
    exact hP _
  | true =>
    rw [hb, Bool.true_and] at h
    rw [if_pos rfl]
    refine Ends.step rfl ?_
    rw [a2, if_neg (by omega), a2', h]
    refine Ends.step rfl ?_
    rw [a6, if_pos hs]
    exact hP _
theorem dot_none {seen : Sre.Seen} {om : Bool} (hs : text.size ≤ s) : Ends 4 (T1 text s seen om) Miss := by
  refine Ends.step rfl ?_
  rw [a1]
  split
  · refine Ends.step rfl ?_
    rw [a2, if_pos hs]
    refine Ends.step rfl ?_
    rw [a6, if_neg (by (apply Nat.not_lt.mpr; assumption))]
    refine Ends.step rfl ?_
    rw [a7]
    exact Ends.here rfl rfl
  · refine Ends.step (k := 2) rfl ?_ |>.le (by exact Nat.lt_succ_self _)
    rw [show ({ T1 text s ((seen.add 6).add 44) om with answer := some false } : Sre.M) = { T1 text s ((seen.add 6).add 44) om with pc := 5, answer := some false } from rfl, a6, if_neg (by omega)]
    refine Ends.step rfl ?_
    rw [a7]
    exact Ends.here rfl rfl
/-- where the first one stands, from a place on -/
noncomputable def firstDot (text : Array Nat) : Nat → Nat → Option Nat
  | 0, _ => none
  | k + 1, s => match isDot text s with
    | true => some s
    | false => firstDot text k (s + 1)
theorem dot_search : ∀ (k s : Nat) (seen : Sre.Seen) (om : Bool), s + k = text.size → match firstDot text k s with
    | some p => Ends (3 * k + 5) (T1 text s seen om) (Hit p (p + 1))
    | none => Ends (3 * k + 5) (T1 text s seen om) Miss
  | 0, s, seen, om, h => by
    simp only [firstDot]
    exact (dot_none (by lia)).le (by exact Nat.le_succ _)
  | k + 1, s, seen, om, h => by
    simp only [firstDot]
    cases hd : isDot text s with
    | true => exact (dot_here hd (by lia)).le (by exact Nat.le_add_left _ _)
    | false =>
      have ih := fun seen => dot_search k (s + 1) seen false (by lia)
      have e : 3 * (k + 1) + 5 = (3 * k + 5) + 3 := by exact Nat.add_assoc _ _ _
      cases hf : firstDot text k (s + 1) with
      | some p =>
        rw [hf] at ih
        rw [e]; exact dot_next (.inl hd) (by omega) ih
      | none =>
        rw [hf] at ih
        rw [e]; exact dot_next (.inl hd) (by omega) ih
theorem search1 {p : Nat} (hp : p ≤ text.size) : match firstDot text (text.size - p) p with
    | some s => Ends (3 * text.size + 10) (Sre.forSearch C1 text 0 p text.size false) (Hit s (s + 1))
    | none => Ends (3 * text.size + 10) (Sre.forSearch C1 text 0 p text.size false) Miss := by
  have e : Sre.forSearch C1 text 0 p text.size false = if (decide (p > text.size) || decide (text.size - p < 1)) = true then ({ code := C1, text, lim := text.size, start := p, pc := 5, pos := p, handed := p, marks := #[], seen := ({} : Sre.Seen).add 14, answer := some false } : Sre.M) else T1 text p (({} : Sre.Seen).add 14) true := rfl
  rw [e]
  by_cases hlt : p < text.size
  · have h0 : (decide (p > text.size) || decide (text.size - p < 1)) = false := by simp; lia
    rw [h0, if_neg Bool.false_ne_true]
    have := dot_search (text := text) (text.size - p) p (({} : Sre.Seen).add 14) true (by omega)
    split at this
    · rename_i s hs; exact this.le (by lia)
    · rename_i hs; exact this.le (by omega)
  · have h0 : (decide (p > text.size) || decide (text.size - p < 1)) = true := by simp; omega
    rw [h0, if_pos rfl]
    have hz : text.size - p = 0 := by lia
    rw [hz]
    simp only [firstDot]
    refine Ends.le (k := 1) (Ends.step (k := 0) rfl ?_) (by exact Nat.succ_pos _)
    exact Ends.here rfl rfl
end
end Mine
end

section
open PySem PySem.W PyProof.Rows
set_option Elab.async false
set_option autoImplicit false
set_option maxRecDepth 100000
namespace Mine

/- line ends -/
noncomputable def C2 : Array Nat := #[14, 9, 4, 1, 2, 16, 10, 16, 13, 0, 7, 7, 16, 13, 16, 10, 15, 18, 5, 16, 10, 15, 13, 11, 16, 13, 5, 5, 0, 16, 10, 1, 15, 2, 0, 1]
noncomputable abbrev F0 (s : Nat) : Sre.Frame := { wait := .nextStart, pc := 10, pos := s, outermost := true }
noncomputable abbrev kept0 : Sre.Kept := { lastmark := -1, lastindex := -1, whole := false, marks := #[] }
noncomputable abbrev FB (s a : Nat) : Sre.Frame := { wait := .nextBranch, pc := a, pos := s, outermost := true, kept := kept0 }
noncomputable abbrev FL (s : Nat) : Sre.Frame := { wait := .lookNot, pc := 26, pos := s + 1, outermost := true, kept := kept0 }
noncomputable def T2 (text : Array Nat) (s : Nat) (seen : Sre.Seen) : Sre.M :=
  { code := C2, text, lim := text.size, start := s, lastStart := text.size, pc := 10, pos := s, handed := s, outermost := true, marks := #[], frames := [F0 s], weight := 1, seen }
noncomputable def B2 (text : Array Nat) (s a pc pos handed : Nat) (seen : Sre.Seen) : Sre.M :=
  { code := C2, text, lim := text.size, start := s, lastStart := text.size, pc, pos, handed, outermost := true, marks := #[], frames := [FB s a, F0 s], weight := 2, seen }
noncomputable def L2 (text : Array Nat) (s pc pos handed : Nat) (seen : Sre.Seen) : Sre.M :=
  { code := C2, text, lim := text.size, start := s, lastStart := text.size, pc, pos, handed, outermost := false, marks := #[], frames := [FL s, FB s 23, F0 s], weight := 3, seen }
section
variable {text : Array Nat} {s p h : Nat} {seen : Sre.Seen}
theorem b0 : (T2 text s seen).step = B2 text s 11 12 s s (seen.add 7) := rfl
theorem b12 : (B2 text s 11 12 p h seen).step = if p ≥ text.size then { B2 text s 11 12 p h (seen.add 16) with answer := some false } else
  match Sre.accepts C2 12 (text.getD p 0) (seen.add 16) with
  | .error why => (B2 text s 11 12 p h (seen.add 16)).stick why
  | .ok (false, seen) => { B2 text s 11 12 p h seen with answer := some false }
  | .ok (true, seen) => B2 text s 11 14 (p + 1) h seen := rfl
theorem b12' {c : Nat} : Sre.accepts C2 12 c seen = .ok (c == 13, seen) := rfl
theorem b14 : (B2 text s 11 14 p h seen).step = if p ≥ text.size then { B2 text s 11 14 p h (seen.add 16) with answer := some false } else
  match Sre.accepts C2 14 (text.getD p 0) (seen.add 16) with
  | .error why => (B2 text s 11 14 p h (seen.add 16)).stick why
  | .ok (false, seen) => { B2 text s 11 14 p h seen with answer := some false }
  | .ok (true, seen) => B2 text s 11 16 (p + 1) h seen := rfl
theorem b14' {c : Nat} : Sre.accepts C2 14 c seen = .ok (c == 10, seen) := rfl
theorem b16 : (B2 text s 11 16 p h seen).step = B2 text s 11 35 p h (seen.add 15) := rfl
theorem b35 {a : Nat} : (B2 text s a 35 p h seen).step = { B2 text s a 35 p p (seen.add 1) with answer := some true } := rfl
theorem bT {a : Nat} : ({ B2 text s a 35 p h seen with answer := some true } : Sre.M).step = { T2 text s seen with pc := a, handed := h, answer := some true } := rfl
theorem bU {a : Nat} : ({ T2 text s seen with pc := a, handed := h, answer := some true } : Sre.M).step = { T2 text s seen with handed := h, answer := some true, frames := [], weight := 0 } := rfl
theorem bV : ({ T2 text s seen with handed := h, answer := some true, frames := [], weight := 0 } : Sre.M).step = { T2 text s seen with handed := h, answer := some true, frames := [], weight := 0, outcome := some .matched } := rfl
theorem bF {pc : Nat} : ({ B2 text s 11 pc p h seen with answer := some false } : Sre.M).step = B2 text s 18 19 s s seen := rfl
theorem b19 : (B2 text s 18 19 p h seen).step = if p ≥ text.size then { B2 text s 18 19 p h (seen.add 16) with answer := some false } else
  match Sre.accepts C2 19 (text.getD p 0) (seen.add 16) with
  | .error why => (B2 text s 18 19 p h (seen.add 16)).stick why
  | .ok (false, seen) => { B2 text s 18 19 p h seen with answer := some false }
  | .ok (true, seen) => B2 text s 18 21 (p + 1) h seen := rfl
theorem b19' {c : Nat} : Sre.accepts C2 19 c seen = .ok (c == 10, seen) := rfl
theorem b21 : (B2 text s 18 21 p h seen).step = B2 text s 18 35 p h (seen.add 15) := rfl
theorem bG {pc : Nat} : ({ B2 text s 18 pc p h seen with answer := some false } : Sre.M).step = B2 text s 23 24 s s seen := rfl
theorem b24 : (B2 text s 23 24 p h seen).step = if p ≥ text.size then { B2 text s 23 24 p h (seen.add 16) with answer := some false } else
  match Sre.accepts C2 24 (text.getD p 0) (seen.add 16) with
  | .error why => (B2 text s 23 24 p h (seen.add 16)).stick why
  | .ok (false, seen) => { B2 text s 23 24 p h seen with answer := some false }
  | .ok (true, seen) => B2 text s 23 26 (p + 1) h seen := rfl
theorem b24' {c : Nat} : Sre.accepts C2 24 c seen = .ok (c == 13, seen) := rfl
theorem b26 : (B2 text s 23 26 (s + 1) h seen).step = L2 text s 29 (s + 1) (s + 1) (seen.add 5) := rfl
theorem l29 : (L2 text s 29 p h seen).step = if p ≥ text.size then { L2 text s 29 p h (seen.add 16) with answer := some false } else
  match Sre.accepts C2 29 (text.getD p 0) (seen.add 16) with
  | .error why => (L2 text s 29 p h (seen.add 16)).stick why
  | .ok (false, seen) => { L2 text s 29 p h seen with answer := some false }
  | .ok (true, seen) => L2 text s 31 (p + 1) h seen := rfl
theorem l29' {c : Nat} : Sre.accepts C2 29 c seen = .ok (c == 10, seen) := rfl
theorem lF {pc : Nat} : ({ L2 text s pc p h seen with answer := some false } : Sre.M).step = B2 text s 23 32 (s + 1) h seen := rfl
theorem b32 : (B2 text s 23 32 p h seen).step = B2 text s 23 35 p h (seen.add 15) := rfl

theorem win {a : Nat} {k : Nat} (hk : 4 ≤ k) : Ends k (B2 text s a 35 p h seen) (Hit s p) := by
  refine Ends.le (k := 4) (Ends.step rfl ?_) hk
  rw [b35]
  refine Ends.step rfl ?_
  rw [bT]
  refine Ends.step rfl ?_
  rw [bU]
  refine Ends.step rfl ?_
  rw [bV]
  exact Ends.here rfl ⟨rfl, rfl, rfl⟩
noncomputable def isEol (c : Nat) : Bool := c == 10 || c == 13
/-- the end of a line's end that begins here -/
noncomputable def eolEnd (text : Array Nat) (s : Nat) : Nat := match text.getD s 0 == 13 && (decide (s + 1 < text.size) && text.getD (s + 1) 0 == 10) with
  | true => s + 2
  | false => s + 1
theorem eol_here (hs : s < text.size) (he : isEol (text.getD s 0) = true) : Ends 30 (T2 text s seen) (Hit s (eolEnd text s)) := by
  refine Ends.step rfl ?_
  rw [b0]
  refine Ends.step rfl ?_
  rw [b12, if_neg (by (apply Nat.not_le.mpr; assumption)), b12']
  unfold eolEnd
  cases h13 : text.getD s 0 == 13 with
  | true =>
    rw [Bool.true_and]
    show Ends 28 (B2 text s 11 14 (s + 1) s _) _
    refine Ends.step rfl ?_
    rw [b14]
    have third : ∀ seen, (¬ (s + 1 < text.size) ∨ (text.getD (s + 1) 0 == 10) = false) → Ends 26 (B2 text s 18 19 s s seen) (Hit s (s + 1)) := fun seen h => by
      have h10 : (text.getD s 0 == 10) = false := by
        have : text.getD s 0 = 13 := beq_iff_eq.mp h13
        rw [this]; rfl
      refine Ends.step rfl ?_
      rw [b19, if_neg (by omega), b19', h10]
      refine Ends.step rfl ?_
      rw [bG]
      refine Ends.step rfl ?_
      rw [b24, if_neg (by omega), b24', h13]
      show Ends 23 (B2 text s 23 26 (s + 1) s _) _
      refine Ends.step rfl ?_
      rw [b26]
      refine Ends.step rfl ?_
      rw [l29]
      have fin : ∀ seen pc h, Ends 21 ({ L2 text s pc (s + 1) h seen with answer := some false } : Sre.M) (Hit s (s + 1)) := fun seen pc h => by
        refine Ends.step rfl ?_
        rw [lF]
        refine Ends.step rfl ?_
        rw [b32]
        exact win (by exact Nat.le_add_left _ _)
      by_cases hlt : s + 1 < text.size
      · rw [if_neg (by (apply Nat.not_le.mpr; assumption)), l29', h.resolve_left (by simpa using hlt)]
        exact fin _ _ _
      · rw [if_pos (by (apply Nat.not_lt.mp; assumption))]
        exact fin _ _ _
    by_cases hlt : s + 1 < text.size
    · rw [if_neg (by omega), b14']
      rw [decide_eq_true hlt, Bool.true_and]
      cases h10 : text.getD (s + 1) 0 == 10 with
      | true =>
        show Ends 27 (B2 text s 11 16 (s + 1 + 1) s _) (Hit s (s + 2))
        refine Ends.step rfl ?_
        rw [b16]
        exact win (by exact Nat.le_add_left _ _)
      | false =>
        show Ends 27 ({ B2 text s 11 14 (s + 1) s _ with answer := some false } : Sre.M) (Hit s (s + 1))
        refine Ends.step rfl ?_
        rw [bF]
        exact third _ (.inr h10)
    · rw [if_pos (by (apply Nat.not_lt.mp; assumption)), decide_eq_false hlt, Bool.false_and]
      refine Ends.step rfl ?_
      rw [bF]
      exact third _ (.inl hlt)
  | false =>
    rw [Bool.false_and]
    have h10 : (text.getD s 0 == 10) = true := by
      unfold isEol at he
      rw [h13, Bool.or_false] at he; exact he
    show Ends 28 ({ B2 text s 11 12 s s _ with answer := some false } : Sre.M) _
    refine Ends.step rfl ?_
    rw [bF]
    refine Ends.step rfl ?_
    rw [b19, if_neg (by omega), b19', h10]
    show Ends 26 (B2 text s 18 21 (s + 1) s _) _
    refine Ends.step rfl ?_
    rw [b21]
    exact win (by exact Nat.le_add_left _ _)

/-- where the first line's end stands -/
noncomputable def firstEol (text : Array Nat) : Nat → Nat → Option Nat
  | 0, _ => none
  | k + 1, s => match isEol (text.getD s 0) with
    | true => some s
    | false => firstEol text k (s + 1)
theorem set_is {c : Nat} {seen : Sre.Seen} : ∃ seen', Sre.inSet C2 c C2.size 5 true seen = .ok (isEol c, seen') := by
  have e : Sre.inSet C2 c C2.size 5 true seen = if (c == 10) = true then .ok (true, seen.add 16) else if (c == 13) = true then .ok (true, (seen.add 16).add 16) else .ok (false, ((seen.add 16).add 16).add 0) := rfl
  rw [e]
  unfold isEol
  cases h1 : c == 10 with
  | true => exact ⟨_, by rw [if_pos rfl]; rfl⟩
  | false =>
    rw [if_neg Bool.false_ne_true]
    cases h2 : c == 13 with
    | true => exact ⟨_, by rw [if_pos rfl]; rfl⟩
    | false => exact ⟨_, by rw [if_neg Bool.false_ne_true]; rfl⟩
theorem admit {m : Sre.M} (hc : m.code = C2) (ht : m.text = text) (hl : m.lim = text.size) : ∀ (k s : Nat) (seen : Sre.Seen), s + k = text.size → ∃ seen', Sre.M.admitted m (k + 1) s seen = .ok (firstEol text k s, seen')
  | 0, s, seen, h => ⟨seen, by
    unfold Sre.M.admitted
    rw [if_pos (by rw [hl]; lia)]; rfl⟩
  | k + 1, s, seen, h => by
    unfold Sre.M.admitted
    rw [if_neg (by rw [hl]; lia), hc, ht]
    obtain ⟨seen', e⟩ := set_is (c := text.getD s 0) (seen := seen)
    rw [e]
    simp only [firstEol]
    cases isEol (text.getD s 0) with
    | true => exact ⟨seen', rfl⟩
    | false => exact admit hc ht hl k (s + 1) seen' (by lia)
theorem firstEol_lt : ∀ (k s p : Nat), firstEol text k s = some p → isEol (text.getD p 0) = true ∧ p < s + k
  | 0, s, p, h => by simp [firstEol] at h
  | k + 1, s, p, h => by
    simp only [firstEol] at h
    split at h
    · rename_i he; cases h; exact ⟨he, by lia⟩
    · obtain ⟨h1, h2⟩ := firstEol_lt k (s + 1) p h; exact ⟨h1, by lia⟩
theorem search2 {p : Nat} (hp : p ≤ text.size) : match firstEol text (text.size - p) p with
    | some s => Ends 40 (Sre.forSearch C2 text 0 p text.size false) (Hit s (eolEnd text s))
    | none => Ends 40 (Sre.forSearch C2 text 0 p text.size false) Miss := by
  have e : Sre.forSearch C2 text 0 p text.size false = if (decide (p > text.size) || decide (text.size - p < 1)) = true then ({ code := C2, text, lim := text.size, start := p, pc := 10, pos := p, handed := p, marks := #[], seen := ({} : Sre.Seen).add 14, answer := some false } : Sre.M) else
      Sre.M.attemptFrom ({ code := C2, text, lim := text.size, start := p, lastStart := text.size, pc := 10, pos := p, handed := p, marks := #[], seen := ({} : Sre.Seen).add 14 } : Sre.M) p true := rfl
  rw [e]
  by_cases hlt : p < text.size
  · have h0 : (decide (p > text.size) || decide (text.size - p < 1)) = false := by simp; lia
    rw [h0, if_neg Bool.false_ne_true]
    have e2 : Sre.M.attemptFrom ({ code := C2, text, lim := text.size, start := p, lastStart := text.size, pc := 10, pos := p, handed := p, marks := #[], seen := ({} : Sre.Seen).add 14 } : Sre.M) p true =
      match Sre.M.admitted ({ code := C2, text, lim := text.size, start := p, lastStart := text.size, pc := 10, pos := p, handed := p, marks := #[], seen := ({} : Sre.Seen).add 14 } : Sre.M) (text.size + 1 - p) p (({} : Sre.Seen).add 14) with
      | .ok (some s, seen) => T2 text s seen
      | .ok (none, seen) => ({ code := C2, text, lim := text.size, start := p, lastStart := text.size, pc := 10, pos := p, handed := p, marks := #[], seen, answer := some false } : Sre.M)
      | .error why => Sre.M.stick ({ code := C2, text, lim := text.size, start := p, lastStart := text.size, pc := 10, pos := p, handed := p, marks := #[], seen := ({} : Sre.Seen).add 14 } : Sre.M) why := rfl
    rw [e2]
    obtain ⟨seen', ea⟩ := admit (text := text) (m := ({ code := C2, text, lim := text.size, start := p, lastStart := text.size, pc := 10, pos := p, handed := p, marks := #[], seen := ({} : Sre.Seen).add 14 } : Sre.M)) rfl rfl rfl (text.size - p) p (({} : Sre.Seen).add 14) (by lia)
    rw [show text.size + 1 - p = text.size - p + 1 by lia, ea]
    cases hf : firstEol text (text.size - p) p with
    | some s =>
      obtain ⟨h1, h2⟩ := firstEol_lt _ _ _ hf
      exact (eol_here (by omega) h1).le (by exact Nat.le_add_left _ _)
    | none =>
      refine Ends.le (k := 1) (Ends.step (k := 0) rfl ?_) (by exact Nat.succ_pos _)
      exact Ends.here rfl rfl
  · have h0 : (decide (p > text.size) || decide (text.size - p < 1)) = true := by simp; omega
    rw [h0, if_pos rfl]
    have hz : text.size - p = 0 := by lia
    rw [hz]
    simp only [firstEol]
    refine Ends.le (k := 1) (Ends.step (k := 0) rfl ?_) (by omega)
    exact Ends.here rfl rfl
end
end Mine
end

section
open PySem PySem.W PyProof.Rows PySem.Builtin PySem.Builtin.Re
set_option Elab.async false
set_option autoImplicit false
set_option maxRecDepth 100000
namespace Mine

theorem slot_sub : PySem.Slot "re.Pattern" (Str.ofString "sub") "re.Pattern.sub" :=
  .of (owner := "re.Pattern") (n := "sub") (by rw [typeLookup_type, builtinLookup_eq_fast]; kernel_rfl) (by decide +kernel) (by decide +kernel) (by decide +kernel)
    (by first | exact .inl (by decide +kernel) | exact .inr (by decide +kernel)) (by rw [isSubtype_type]; kernel_rfl)
theorem type_sub : typeOf (.builtin "re.Pattern.sub") = pure (.type "method_descriptor") := by show builtinType _ = _; rw [builtinType_eq_fast]; kernel_rfl
theorem entry_sub : entryFor table "re.Pattern.sub" = some Builtin.«re.Pattern.sub» := entryFor_of_tree (by kernel_rfl)
theorem entry_sub_loop : entryFor table "re.Pattern.sub.loop" = some Builtin.«re.Pattern.sub.loop» := entryFor_of_tree (by kernel_rfl)
theorem plain_sub_loop : plainId "re.Pattern.sub.loop" = true := by decide +kernel
theorem args_sub (a b c : Value) : argsOk "re.Pattern.sub" ⟨[a, b, c], []⟩ := by
  unfold argsOk; kernel_rfl
theorem plainAttrs_pat : PlainAttrs "re.Pattern" :=
  ⟨⟨"object.__getattribute__", by rw [typeLookup_type, builtinLookup_eq_fast]; kernel_rfl, by decide +kernel⟩, by rw [typeLookup_type, builtinLookup_eq_fast]; kernel_rfl⟩
theorem str_no_call : typeLookup (.type "str") (Str.ofString "__call__") = pure none := by rw [typeLookup_type, builtinLookup_eq_fast]; kernel_rfl

section
variable {prog : Program} {w : World} {A : Around} {E : Value → Shared → Prop} {s : Shared}
theorem drive {P : Sre.M → Prop} {Q : Sre.M → Shared → Prop} (hQ : ∀ m', m'.outcome.isSome = true → P m' → Q m' s) : ∀ (t k : Nat) (m : Sre.M), k < 4 * t → Ends k m P → wpAny (model prog w) A (reDrive t m) Q E s
  | 0, k, m, h, _ => by lia
  | t + 1, k, m, h, he => by
    unfold reDrive
    obtain ⟨j, hj, h1, h2⟩ := he
    show wpAny _ A (if (Sre.M.runFor reTurnSteps m).outcome.isSome = true then pure (Sre.M.runFor reTurnSteps m) else do rule "sre.turn"; reDrive t (Sre.M.runFor reTurnSteps m)) Q E s
    cases ho : (Sre.M.runFor reTurnSteps m).outcome.isSome with
    | true =>
      rw [if_pos rfl]
      have e : Sre.M.runFor j m = Sre.M.runFor reTurnSteps m := by
        rcases Nat.le_total j reTurnSteps with q | q
        · obtain ⟨d, hd⟩ := Nat.exists_eq_add_of_le q
          rw [hd, run_add, run_out _ _ h1]
        · obtain ⟨d, hd⟩ := Nat.exists_eq_add_of_le q
          rw [hd, run_add, run_out _ _ ho]
      rw [e] at h1 h2
      exact wpAny_pure (hQ _ h1 h2)
    | false =>
      rw [if_neg Bool.false_ne_true]
      have hge : 4 ≤ j := by
        rcases Nat.lt_or_ge j 4 with q | q
        · exfalso
          obtain ⟨d, hd⟩ := Nat.exists_eq_add_of_le (Nat.le_of_lt q)
          have : Sre.M.runFor reTurnSteps m = Sre.M.runFor j m := by
            show Sre.M.runFor 4 m = _
            rw [hd, run_add, run_out _ _ h1]
          rw [this, h1] at ho; cases ho
        · exact q
      refine wpAny_bind (wpAny_rule (drive hQ t (k - 4) _ (by lia) ⟨j - 4, by omega, ?_, ?_⟩))
      · have : Sre.M.runFor (j - 4) (Sre.M.runFor reTurnSteps m) = Sre.M.runFor j m := by
          show Sre.M.runFor (j - 4) (Sre.M.runFor 4 m) = _
          rw [← run_add]; congr 1; omega
        rw [this]; exact h1
      · have : Sre.M.runFor (j - 4) (Sre.M.runFor reTurnSteps m) = Sre.M.runFor j m := by
          show Sre.M.runFor (j - 4) (Sre.M.runFor 4 m) = _
          rw [← run_add]; congr 1; omega
        rw [this]; exact h2
theorem run_end {P : Sre.M → Prop} {Q : Option Sre.M → Shared → Prop} {k : Nat} {m : Sre.M} (hk : k ≤ 1000000000) (he : Ends k m P) (hQ : ∀ m', P m' → (m'.outcome = some .matched → Q (some m') s) ∧ (m'.outcome = some .failed → Q none s) ∧ (m'.outcome = some .matched ∨ m'.outcome = some .failed)) :
    wpAny (model prog w) A (reRunToEnd m) Q E s := by
  unfold reRunToEnd
  refine wpAny_bind (drive (P := P) (fun m' h1 h2 => ?_) (2 ^ 64) k m (by exact Nat.lt_of_le_of_lt ‹_› (by decide)) he)
  refine wpAny_bind ?_
  refine wpAny_forIn_list _ (fun _ _ s' => s' = s) _ ?_ ?_ _ _ rfl
  · rintro i rest b s' rfl
    split
    · exact wpAny_bind (wpAny_rule (wpAny_pure rfl))
    · exact wpAny_pure rfl
  · rintro b s' rfl
    obtain ⟨q1, q2, q3⟩ := hQ m' h2
    rcases q3 with q | q
    · rw [q]; exact wpAny_pure (q1 q)
    · rw [q]; exact wpAny_pure (q2 q)
end
end Mine
end

section
open PySem PySem.W PyProof.Rows PySem.Builtin PySem.Builtin.Re PySem.Builtin.Str
set_option Elab.async false
set_option autoImplicit false
set_option maxRecDepth 100000
namespace Mine
noncomputable def PatAt (h : Heap) (a : Addr) (C : Array Nat) : Prop := ∃ o fs c oc cs n, h.get? a = some o ∧ o.cls = .type "re.Pattern" ∧ o.dict = none ∧ o.data = .fields fs ∧ fs.getD 5 .none = .ref c ∧ reRawNat (fs.getD 6 .none) = 0 ∧ reRawNat (fs.getD 2 .none) = 0 ∧ h.get? c = some oc ∧ oc.data = .seq cs n ∧ (cs.map reRawOf).map (·.toNat) = C
theorem PatAt.keeps {h h' : Heap} {a : Addr} {C : Array Nat} (p : PatAt h a C) (k : ∀ b o, h.get? b = some o → h'.get? b = some o) : PatAt h' a C := by
  obtain ⟨o, fs, c, oc, cs, n, h1, h2, h3, h4, h5, h6, h7, h8, h9⟩ := p
  exact ⟨o, fs, c, oc, cs, n, k _ _ h1, h2, h3, h4, h5, h6, h7, k _ _ h8, h9⟩
section
variable {prog : Program} {w : World} {A : Around} {E : Value → Shared → Prop} {s : Shared}
theorem whole {x : Str} {t : Tok} {a : Addr} {C : Array Nat} {Q : ReTarget → Shared → Prop} (hp : PatAt s.heap a C) (hQ : Q { pattern := .ref a, string := .str x t, code := C, text := x.cps, kind := 0, groups := 0, pos := 0, lim := x.cps.size } s) :
    wpAny (model prog w) A (reWholeTarget (.ref a) (.str x t)) Q E s := by
  obtain ⟨o, fs, c, oc, cs, n, h1, h2, h3, h4, h5, h6, h7, h8, h9, h10⟩ := hp
  unfold reWholeTarget
  refine wpAny_bind (wpAny_fieldsOf h1 h4 ?_)
  refine wpAny_bind (wpAny_of_eq (show reTextOf (.str x t) = pure (x.cps, 0) from rfl) ?_)
  dsimp only
  rw [h5, h6, h7]
  refine wpAny_bind (wpAny_pure ?_)
  unfold reRawItems
  refine wpAny_bind (wpAny_bind (wpAny_seqItems h8 h9 (wpAny_pure ?_)))
  refine wpAny_pure ?_
  show Q { pattern := .ref a, string := .str x t, code := (cs.map reRawOf).map (·.toNat), text := x.cps, kind := 0, groups := 0, pos := 0, lim := x.cps.size } s
  rw [h10]; exact hQ
noncomputable def cut (text : Array Nat) (a b : Nat) : List Str := match Nat.blt a b with
  | true => [⟨text.extract a b⟩]
  | false => []
noncomputable def subL (text : Array Nat) (next : Nat → Option (Nat × Nat)) (r : Str) : Nat → Nat → List Str
  | 0, d => cut text d text.size
  | k + 1, d => match next d with
    | some (p, e) => cut text d p ++ r :: subL text next r k e
    | none => cut text d text.size
/-- what a search finds -/
noncomputable def NextOk (C : Array Nat) (text : Array Nat) (K : Nat) (next : Nat → Option (Nat × Nat)) : Prop := ∀ p, p ≤ text.size → match next p with
  | some (a, e) => Ends K (Sre.forSearch C text 0 p text.size false) (Hit a e) ∧ p ≤ a ∧ a < e ∧ e ≤ text.size
  | none => Ends K (Sre.forSearch C text 0 p text.size false) Miss
theorem found {C text : Array Nat} {K p : Nat} {next : Nat → Option (Nat × Nat)} {tg : ReTarget} {Q : Option Sre.M → Shared → Prop} (hK : K ≤ 1000000000) (hn : NextOk C text K next) (hp : p ≤ text.size) (h1 : tg.code = C) (h2 : tg.text = text) (h3 : tg.groups = 0) (h4 : tg.lim = text.size)
    (hQ : match next p with
      | some (a, e) => ∀ m : Sre.M, m.start = a → m.handed = e → Q (some m) s
      | none => Q none s) : wpAny (model prog w) A (reNextFound tg p false) Q E s := by
  unfold reNextFound
  rw [h1, h2, h3, h4]
  have := hn p hp
  cases hx : next p with
  | some ae =>
    obtain ⟨a, e⟩ := ae
    rw [hx] at this hQ
    refine run_end hK this.1 fun m' hm => ⟨fun _ => hQ m' hm.2.1 hm.2.2, fun h => ?_, .inl hm.1⟩
    rw [hm.1] at h; cases h
  | none =>
    rw [hx] at this hQ
    refine run_end hK this fun m' hm => ⟨fun h => ?_, fun _ => hQ, .inr hm⟩
    unfold Miss at hm
    rw [hm] at h; cases h

noncomputable abbrev listAt (vs : List Value) (c : Nat) : Obj := { cls := .type "list", dict := none, data := .seq vs.toArray c, slots := #[] }
/-- a piece laid onto the list -/
theorem push_piece {S : Addr} {vs : List Value} {c : Nat} {v : Value} {Q : Unit → Shared → Prop} (hS : s.heap.get? S = some (listAt vs c)) (hle : vs.length ≤ 16777216)
    (h : ∀ h' c', h'.get? S = some (listAt (vs ++ [v]) c') → Heap.SameBut S s.heap h' → Q () { s with heap := h' }) : wpAny (model prog w) A (updateSeq S (·.push v)) Q E s := by
  have hsz : vs.toArray.size ≤ sizeLine := by rw [List.size_toArray]; exact hle
  refine wpAny_updateSeq hS rfl ?_ hsz
  have e := Heap.get?_update_self (Obj.mapSeq (·.push v)) hS rfl
  simp [Obj.mapSeq] at e
  exact h _ _ e (Heap.SameBut.update ..)
end
end Mine
end

section
open PySem PySem.W PyProof.Rows PySem.Builtin PySem.Builtin.Re PySem.Builtin.Str
set_option Elab.async false
set_option autoImplicit false
set_option linter.unusedVariables false
set_option maxRecDepth 100000
namespace Mine
theorem strs_append : ∀ {vs ws : List Value} {xs ys : List Str}, StrsAre vs xs → StrsAre ws ys → StrsAre (vs ++ ws) (xs ++ ys)
  | _, _, _, _, .nil, h => h
  | _, _, _, _, .cons x t a, h => .cons x t (strs_append a h)
theorem strs_snoc {vs : List Value} {xs : List Str} {x : Str} {t : Tok} (a : StrsAre vs xs) : StrsAre (vs ++ [.str x t]) (xs ++ [x]) := strs_append a (.cons x t .nil)
theorem strs_len : ∀ {vs : List Value} {xs : List Str}, StrsAre vs xs → vs.length = xs.length
  | _, _, .nil => rfl
  | _, _, .cons _ _ a => by simp [strs_len a]
section
variable {prog : Program} {w : World} {A : Around} {E : Value → Shared → Prop}
/-- a cut laid onto the list of pieces -/
theorem push_cut {β : Type} {h0 : Heap} {s : Shared} {x : Str} {p q : Nat} {S : Addr} {vs : List Value} {c : Nat} {ys : List Str} {rest : Sem β} {Q : β → Shared → Prop} (hS : s.heap.get? S = some (listAt vs c)) (hs : StrsAre vs ys) (hle : ys.length + 1 ≤ 16777216) (hx : x.cps.size ≤ 16777216)
    (h0S : h0.get? S = none) (hk : ∀ b o, h0.get? b = some o → s.heap.get? b = some o)
    (h : ∀ h' tk vs' c', h'.get? S = some (listAt vs' c') → StrsAre vs' (ys ++ cut x.cps p q) → (∀ b o, h0.get? b = some o → h'.get? b = some o) → wpAny (model prog w) A rest Q E { s with heap := h', toks := tk }) :
    wpAny (model prog w) A (if p < q then (do let v ← reSlice x.cps 0 p q; updateSeq S (·.push v); rest) else rest) Q E s := by
  by_cases hpq : p < q
  · rw [if_pos hpq]
    have hlen : (⟨x.cps.extract p q⟩ : Str).length ≤ sizeLine := by
      show (x.cps.extract p q).size ≤ 16777216
      rw [Array.size_extract]; lia
    refine wpAny_bind (wpAny_mkStr ?_ hlen)
    refine wpAny_bind ?_
    refine push_piece (s := { s with toks := s.toks + 1 }) hS (by rw [strs_len hs]; (apply Nat.le_of_lt; assumption)) fun h' c' e sb => ?_
    refine h h' _ _ c' e ?_ fun b o hb => ?_
    · have : cut x.cps p q = [⟨x.cps.extract p q⟩] := by unfold cut; rw [Nat.blt_eq.mpr hpq]
      rw [this]; exact strs_snoc hs
    · rw [sb.2 b (fun e => by rw [e, h0S] at hb; cases hb)]; exact hk b o hb
  · rw [if_neg hpq]
    have : cut x.cps p q = [] := by unfold cut; cases e : Nat.blt p q with
      | true => exact absurd (Nat.blt_eq.mp e) hpq
      | false => rfl
    exact h s.heap s.toks vs c hS (by rw [this, List.append_nil]; exact hs) hk
/-- the pieces of a text, one search after another -/
theorem sub_turns {h0 : Heap} {x r : Str} {t u : Tok} {a S : Addr} {C : Array Nat} {K : Nat} {next : Nat → Option (Nat × Nat)} {R : Except Value Flow → Shared → Prop} {s₀ : Shared} (hK : K ≤ 1000000000) (hn : NextOk C x.cps K next) (hp : PatAt h0 a C) (h0S : h0.get? S = none) (hx : x.cps.size ≤ 16777216)
    (hR : ∀ h' tk t', (∀ b o, h0.get? b = some o → h'.get? b = some o) → R (.ok (.ret (.str (Txt.join ⟨#[]⟩ (subL x.cps next r x.cps.size 0)) t'))) { s₀ with heap := h', toks := tk })
    (hb1 : (subL x.cps next r x.cps.size 0).length < 16777216) (hb2 : ((subL x.cps next r x.cps.size 0).map (·.length)).sum ≤ 16777216) : ∀ (k n d : Nat) (s : Shared) (A : Around) (vs : List Value) (c : Nat) (ys : List Str) , A.handled = none → x.cps.size ≤ d + k → d ≤ x.cps.size → s.heap.get? S = some (listAt vs c) → StrsAre vs ys → (∀ b o, h0.get? b = some o → s.heap.get? b = some o) →
    ys ++ subL x.cps next r k d = subL x.cps next r x.cps.size 0 → (∀ h' tk, { s with heap := h', toks := tk } = { s₀ with heap := h', toks := tk }) →
    codeAny (model prog w) A (.builtin "re.Pattern.sub.loop" ⟨[.ref a, .str x t, .str r u, rawInt 0, rawInt 0, rawInt n, rawInt d, rawInt d, .bool false, .ref S, .bool false], []⟩) R s := by
  intro k
  have last : ∀ (n d : Nat) (s : Shared) (A : Around) (vs : List Value) (c : Nat) (ys : List Str), A.handled = none → d ≤ x.cps.size → s.heap.get? S = some (listAt vs c) → StrsAre vs ys → (∀ b o, h0.get? b = some o → s.heap.get? b = some o) →
      next d = none → ys ++ cut x.cps d x.cps.size = subL x.cps next r x.cps.size 0 → (∀ h' tk, { s with heap := h', toks := tk } = { s₀ with heap := h', toks := tk }) →
      codeAny (model prog w) A (.builtin "re.Pattern.sub.loop" ⟨[.ref a, .str x t, .str r u, rawInt 0, rawInt 0, rawInt n, rawInt d, rawInt d, .bool false, .ref S, .bool false], []⟩) R s := by
    intro n d s A vs c ys hh hd hS hs hk hno he hs₀
    refine codeAny_builtin entry_sub_loop ?_
    rw [Around.under_plainId plain_sub_loop _]
    show wpAny _ A.in1 (reWholeTarget (.ref a) (.str x t) >>= _) _ _ s
    refine wpAny_bind (whole (hp.keeps hk) ?_)
    dsimp only
    refine wpAny_bind (wpAny_pure ?_)
    show wpAny _ A.in1 (reNextFound _ d false >>= _) _ _ _
    refine wpAny_bind (found hK hn hd rfl rfl rfl rfl ?_)
    rw [hno]
    dsimp only
    have hl : ys.length + 1 ≤ 16777216 := by have := congrArg List.length he; rw [List.length_append] at this; lia
    refine push_cut (h0 := h0) hS hs hl hx h0S hk fun h' tk vs' c' hS' hs' hk' => ?_
    have e0 : (⟨x.cps.extract 0 0⟩ : Str) = ⟨#[]⟩ := by simp
    refine wpAny_bind (wpAny_mkStr ?_ (by show (x.cps.extract 0 0).size ≤ 16777216; simp))
    rw [e0]
    refine wpAny_bind (wpAny_seqItems (s := { s with heap := h', toks := tk + 1 }) hS' rfl ?_)
    have fin : ∀ tk' t', R (.ok (.ret (.str (Txt.join ⟨#[]⟩ (ys ++ cut x.cps d x.cps.size)) t'))) { s with heap := h', toks := tk' } := fun tk' t' => by
      rw [hs₀, he]; exact hR h' tk' t' hk'
    have hb2' : ((ys ++ cut x.cps d x.cps.size).map (·.length)).sum ≤ 16777216 := by rw [he]; exact hb2
    change StrsAre vs' (ys ++ cut x.cps d x.cps.size) at hs'
    generalize ys ++ cut x.cps d x.cps.size = zs at hs' fin hb2'
    cases hs' with
    | nil => exact wpAny_bind (wpAny_pure (wpAny_pure (fin _ _)))
    | cons y ty hs' =>
      rw [if_neg (by simp)]
      refine wpAny_bind ?_
      exact join_list (s := { s with heap := h', toks := tk + 1 }) (items := _) ⟨_, hS', rfl, _, rfl⟩ (.cons y ty hs') (by show _ + _ * 0 ≤ _; rw [Nat.mul_zero]; exact hb2') fun t' k => wpAny_pure (fin _ _)
  induction k with
  | zero =>
    intro n d s A vs c ys hh hsz hd hS hs hk he hs₀
    have hde : d = x.cps.size := by lia
    have hno : next d = none := by
      have := hn d hd
      cases e : next d with
      | none => rfl
      | some ae => obtain ⟨p, q⟩ := ae; rw [e] at this; lia
    exact last n d s A vs c ys hh hd hS hs hk hno he hs₀
  | succ k ih =>
    intro n d s A vs c ys hh hsz hd hS hs hk he hs₀
    cases hnx : next d with
    | none => 
      rw [subL, hnx] at he
      exact last n d s A vs c ys hh hd hS hs hk hnx he hs₀
    | some pe =>
    obtain ⟨p, e⟩ := pe
    rw [subL, hnx] at he
    have hb := hn d hd
    rw [hnx] at hb
    refine codeAny_builtin entry_sub_loop ?_
    rw [Around.under_plainId plain_sub_loop _]
    show wpAny _ A.in1 (reWholeTarget (.ref a) (.str x t) >>= _) _ _ s
    refine wpAny_bind (whole (hp.keeps hk) ?_)
    dsimp only
    refine wpAny_bind (wpAny_pure ?_)
    show wpAny _ A.in1 (reNextFound _ d false >>= _) _ _ _
    refine wpAny_bind (found hK hn hd rfl rfl rfl rfl ?_)
    rw [hnx]
    intro m hm1 hm2
    dsimp only
    rw [hm1, hm2]
    have hl : ys.length + 1 ≤ 16777216 := by have := congrArg List.length he; simp only [List.length_append, List.length_cons] at this; lia
    refine push_cut (h0 := h0) (p := d) (q := p) hS hs hl hx h0S hk fun h' tk vs' c' hS' hs' hk' => ?_
    show wpAny _ _ (updateSeq S (fun z => z.push (.str r u)) >>= _) _ _ _
    have hl' : (ys ++ cut x.cps d p).length ≤ 16777216 := by have := congrArg List.length he; simp only [List.length_append, List.length_cons] at this ⊢; lia
    refine wpAny_bind (push_piece (s := { s with heap := h', toks := tk }) hS' (by rw [strs_len hs']; exact hl') fun h'' c'' hS'' sb => ?_)
    have hep : (e == p) = false := by simp; lia
    rw [hep]
    refine wpAny_pure ⟨plainId_quiet plain_sub_loop _, ih (n + 1) e _ A _ c'' _ hh (by lia) (by lia) hS'' (strs_snoc hs') (fun b o hb => ?_) ?_ ?_⟩
    · rw [sb.2 b (fun e => by rw [e, h0S] at hb; cases hb)]; exact hk' b o hb
    · rw [← he]; simp
    · intro h3 tk3; exact hs₀ h3 tk3
end
end Mine
end

section
open PySem PySem.W PyProof.Rows PySem.Builtin PySem.Builtin.Re PySem.Builtin.Str
set_option Elab.async false
set_option autoImplicit false
set_option linter.unusedVariables false
set_option maxRecDepth 100000
namespace Mine
noncomputable def next1 (text : Array Nat) (p : Nat) : Option (Nat × Nat) := match firstDot text (text.size - p) p with
  | some s => some (s, s + 1)
  | none => none
noncomputable def next2 (text : Array Nat) (p : Nat) : Option (Nat × Nat) := match firstEol text (text.size - p) p with
  | some s => some (s, eolEnd text s)
  | none => none
theorem firstDot_lt {text : Array Nat} : ∀ (k s p : Nat), firstDot text k s = some p → s ≤ p ∧ p < s + k
  | 0, s, p, h => by simp [firstDot] at h
  | k + 1, s, p, h => by
    simp only [firstDot] at h
    split at h
    · cases h; lia
    · have := firstDot_lt k (s + 1) p h; lia
theorem firstEol_le {text : Array Nat} : ∀ (k s p : Nat), firstEol text k s = some p → s ≤ p ∧ p < s + k
  | 0, s, p, h => by simp [firstEol] at h
  | k + 1, s, p, h => by
    simp only [firstEol] at h
    split at h
    · cases h; omega
    · have := firstEol_le k (s + 1) p h; omega
theorem nextOk1 (text : Array Nat) : NextOk C1 text (3 * text.size + 10) (next1 text) := by
  intro p hp
  have := search1 hp
  unfold next1
  cases e : firstDot text (text.size - p) p with
  | none => rw [e] at this; exact this
  | some s =>
    rw [e] at this
    have b := firstDot_lt _ _ _ e
    exact ⟨this, by lia, by exact Nat.lt_succ_self _, by lia⟩
theorem nextOk2 (text : Array Nat) : NextOk C2 text 40 (next2 text) := by
  intro p hp
  have := search2 hp
  unfold next2
  cases e : firstEol text (text.size - p) p with
  | none => rw [e] at this; exact this
  | some s =>
    rw [e] at this
    have b := firstEol_le _ _ _ e
    have : s < eolEnd text s ∧ eolEnd text s ≤ text.size := by
      unfold eolEnd
      split
      · rename_i h
        simp only [Bool.and_eq_true, decide_eq_true_eq] at h
        omega
      · lia
    exact ⟨‹_›, by omega, this.1, this.2⟩
section
variable {prog : Program} {w : World} {A : Around} {E : Value → Shared → Prop} {s : Shared}
theorem sub_call {x r : Str} {t u : Tok} {a : Addr} {C : Array Nat} {K : Nat} {next : Nat → Option (Nat × Nat)} {Q : Value → Shared → Prop} (hh : A.handled = none) (hK : K ≤ 1000000000) (hn : NextOk C x.cps K next) (hp : PatAt s.heap a C) (hx : x.cps.size ≤ 16777216) (hr : r.cps.contains 92 = false)
    (hb1 : (subL x.cps next r x.cps.size 0).length < 16777216) (hb2 : ((subL x.cps next r x.cps.size 0).map (·.length)).sum ≤ 16777216)
    (hQ : ∀ h' tk t', (∀ b o, s.heap.get? b = some o → h'.get? b = some o) → Q (.str (Txt.join ⟨#[]⟩ (subL x.cps next r x.cps.size 0)) t') { s with heap := h', toks := tk }) :
    wpAny (model prog w) A (call (.builtin "re.Pattern.sub") [.ref a, .str r u, .str x t]) Q E s := by
  have hT : s.TypeIs (.ref a) "re.Pattern" := by
    obtain ⟨o, fs, c, oc, cs, n, h1, h2, h3, _⟩ := hp
    exact ⟨o, h1, h2⟩
  refine call_meetsIn (S := fun A' R s' => wpAny (model prog w) A'.in1 (Builtin.«re.Pattern.sub» ⟨[.ref a, .str r u, .str x t], []⟩) (fun fin s' => match fin with | .done f => R (.ok f) s' | .again c' => c'.quiet = true ∧ codeAny (model prog w) A' c' R s') (fun e s' => R (.error e) s') s') slot_sub hT entry_sub (args_sub _ _ _) (fun A' R s' h => h) ?_
  have hnm : reNamed "re.Pattern.sub" "sub" ["repl", "string", "count"] 2 [.str r u, .str x t] [] = pure [some (.str r u), some (.str x t), none] := rfl
  show wpAny (model prog w) A.in1 (reNamed "re.Pattern.sub" "sub" ["repl", "string", "count"] 2 [.str r u, .str x t] [] >>= _) _ _ s
  refine wpAny_bind (wpAny_of_eq hnm ?_)
  dsimp only
  refine wpAny_bind (wpAny_pure ?_)
  refine wpAny_bind (wpAny_specialOf (typeIs_str _ _ _) str_no_call ?_)
  rw [if_neg (by simp)]
  refine wpAny_bind (wpAny_of_eq (show asStr? (.str r u) = pure (some r) from rfl) ?_)
  dsimp only
  rw [hr]
  refine wpAny_bind (wpAny_pure ?_)
  rw [if_neg (by simp), if_pos (by rfl)]
  refine wpAny_bind (wpAny_pure ?_)
  dsimp only
  refine wpAny_bind (wpAny_holding (whole hp ?_))
  rw [if_neg (by decide)]
  refine wpAny_bind (wpAny_newList ?_ (by show 0 ≤ sizeLine; decide))
  refine wpAny_pure ⟨plainId_quiet plain_sub_loop _, ?_⟩
  have hfr : s.heap.get? s.heap.objs.size = none := by
    cases q : s.heap.get? s.heap.objs.size with
    | none => rfl
    | some o => exact absurd (Heap.lt_size q) (Nat.lt_irrefl _)
  refine sub_turns (h0 := s.heap) (s₀ := s) (S := s.heap.objs.size) hK hn hp hfr hx ?_ hb1 hb2 x.cps.size 0 0 _ A [] 0 [] hh (by exact Nat.le_add_left _ _) (by exact Nat.zero_le _) ?_ .nil ?_ ?_ ?_
  · intro h' tk t' hk; exact hQ h' tk t' hk
  · exact Heap.get?_push_size _ rfl
  · intro b o hb; exact Heap.get?_push_of_some _ hb
  · rfl
  · intro h' tk; rfl
end
section
variable {X : Top0} {n : Nat} {lay : Lay}
noncomputable def fSub (next : Array Nat → Nat → Option (Nat × Nat)) : List PV → Option PV
  | [.str r, .str x] => match r.cps.contains 92 with
    | true => none
    | false => match Nat.ble x.cps.size 16777216 with
      | false => none
      | true => match subL x.cps (next x.cps) r x.cps.size 0 with
        | l => match Nat.blt l.length 16777216 with
          | false => none
          | true => match Nat.ble ((l.map (·.length)).sum) 16777216 with
            | false => none
            | true => some (.str (Txt.join ⟨#[]⟩ l))
  | _ => none
/-- a pattern's sub, called by a name of the text -/
theorem e_sub {f : Str} {fa : Addr} {C : Array Nat} {Kf : Nat → Nat} {next : Array Nat → Nat → Option (Nat × Nat)} {p apos pos : Pos} {a : Expr} {as : List Expr} {ds : Dens} (hx : lay.names.lookup f = some .globalImplicit) (hv : X.mg f = some (.ref fa)) (hp : ∀ h, Good X.W₀ h → PatAt h fa C)
    (hn : ∀ text, NextOk C text (Kf text.size) (next text)) (hK : ∀ n, n ≤ 16777216 → Kf n ≤ 1000000000)
    (h : EsOk X n lay (a :: as) ds) (hs : ∀ env, starEach (a :: as) env = (false, eval a env) :: starEach as env := by intro _; rfl) (hdb : (f == ("__debug__" : Str)) = false := by decide)
    (he : ∀ env, ∃ pl, eval (.Call (.Attribute (.Name f p) (Str.ofString "sub") apos) (a :: as) [] pos) env = (do
      let ov ← eval (.Name f p) env
      standAt apos.atName
      let (f, first) ← holding [ov] (getMethod ov (Str.ofString "sub") pl)
      callWith pos f first (backTo pos (starEach (a :: as) env)) []) := by intro env; exact ⟨_, rfl⟩) :
    EOk X n lay (.Call (.Attribute (.Name f p) (Str.ofString "sub") apos) (a :: as) [] pos) (dCall (fSub next) ds) := by
  intro A env W ρ s r Q rm e hd' hQ
  unfold dCall at hd'
  split at hd' <;> try (cases hd'; done)
  rename_i ps hps
  obtain ⟨pl, he⟩ := he env
  refine MethodCall_ (name_glob e hx hv ?_ hdb) he
  have pat := hp _ e.good0
  have pat' := pat
  obtain ⟨o, fs, c, oc, cs, n', h1, h2, h3, _⟩ := pat'
  refine getMethod_builtin ⟨o, h1, h2⟩ plainAttrs_pat slot_sub type_sub (fun a q => by cases q; exact ⟨o, h1, h3⟩) ?_
  refine callWith_method1 (h.run A env W ρ s ps pos _ rm e hps fun vs s₂ W₂ r₂ p₂ => ?_) (hs env) ?_
  · unfold fSub at hd'
    split at hd' <;> try (cases hd'; done)
    rename_i rr x
    split at hd' <;> try (cases hd'; done)
    rename_i hr
    split at hd' <;> try (cases hd'; done)
    rename_i hxs
    dsimp only at hd'
    split at hd' <;> try (cases hd'; done)
    rename_i hb1
    split at hd' <;> try (cases hd'; done)
    rename_i hb2
    cases hd'
    obtain ⟨v, u, rfl, rv, ru⟩ := p₂.two
    obtain ⟨t, rfl⟩ := rv.isStr
    obtain ⟨t', rfl⟩ := ru.isStr
    have hxs' := Nat.le_of_ble_eq_true hxs
    have e₂ := e.res r₂
    refine sub_call rm.handled (hK _ hxs') (hn _) (hp _ e₂.good0) hxs' hr (Nat.blt_eq.mp hb1) (Nat.le_of_ble_eq_true hb2) fun h' tk t' hk => ?_
    exact hQ _ _ _ (r₂.trans (.heap r₂.good hk)) (.str _ _)
  · have := h.plain env pos
    rw [hs] at this
    exact this
theorem e_gstr {f : Str} {x : Str} {t : Tok} {p : Pos} (hx : lay.names.lookup f = some .globalImplicit) (hv : X.mg f = some (.str x t)) (hdb : (f == ("__debug__" : Str)) = false := by decide) :
    EOk X n lay (.Name f p) fun _ => some (.str x) := by
  intro A env W ρ s r Q rm e hd' hQ
  cases hd'
  exact name_glob e hx hv (hQ _ _ _ (.refl e.good) (.str _ _)) hdb
end
end Mine
end

section
open PySem PySem.W PyProof.Rows PySem.Builtin
set_option Elab.async false
set_option autoImplicit false
set_option linter.unusedVariables false
set_option maxRecDepth 100000
namespace Mine
section
variable {X : Top0} {n : Nat} {lay : Lay}
theorem CallOk.up {m : Nat} {f : Value} {F : List PV → Option PV} (h : CallOk X m f F) (hm : m ≤ n) : CallOk X n f F :=
  fun A W s vs ps r Q rm hb g rs hf hQ => h A W s vs ps r Q (rm.le hm) hb g rs hf hQ
noncomputable def fAddL : PV → PV → Option PV
  | .list a, .list b => match Nat.ble (a.length + b.length) 16777216 with
    | true => some (.list (a ++ b))
    | false => none
  | _, _ => none
theorem b_addL : BinOk X .Add fAddL := by
  intro A W s a b p q r Q rm hb g ra rb hf hQ
  unfold fAddL at hf
  split at hf <;> try (cases hf; done)
  rename_i x y
  split at hf <;> try (cases hf; done)
  rename_i hs
  cases hf
  obtain ⟨l, vs, rfl, hl, rv⟩ := ra.listAt g
  obtain ⟨l2, ws, rfl, hl2, rw⟩ := rb.listAt g
  have hsz := Nat.le_of_ble_eq_true hs
  obtain ⟨⟨cls, dd, data, sl⟩, ho, hc, n, hd⟩ := id hl
  obtain ⟨⟨cls2, dd2, data2, sl2⟩, ho2, hc2, n2, hd2⟩ := id hl2
  simp only at hc hd hc2 hd2
  subst hc; subst hd; subst hc2; subst hd2
  have hlen : vs.length + ws.length ≤ sizeLine := by rw [rv.length, rw.length]; exact hsz
  refine concat_meets ⟨_, ho, rfl⟩ ⟨_, ho2, rfl⟩ noFill_list_add seq_list_add PySem.F.slot_list_add PySem.F.entry_list_add (PySem.F.args_list_add_2 _ _) (list_addW l l2 vs.toArray ws.toArray n n2 dd dd2 sl sl2 (by simpa using hlen)) ⟨ho, ho2, ?_⟩
  have : vs.toArray ++ ws.toArray = (vs ++ ws).toArray := by simp
  rw [this]
  exact hQ _ _ _ (Res.new g _ rfl s.toks) (.list Fz.add_self ((rv.append rw).mono (Fz.le_add g.size)))
end
end Mine
end

section
open PySem PySem.W PyProof.Rows PySem.Builtin
set_option Elab.async false
set_option autoImplicit false
set_option linter.unusedVariables false
set_option maxRecDepth 100000
namespace Mine
/- the program's text, by place -/
noncomputable def dStmt : Stmt := .Pass default
noncomputable def stmtAt (k : Nat) : Stmt := PySem.Challenge.pw_rs0051_01.main.body.getD k dStmt
noncomputable def bodyOf : Stmt → List Stmt
  | .FunctionDef _ _ b _ _ _ _ _ _ _ => b
  | _ => []
noncomputable def scopeOf : Stmt → Scope
  | .FunctionDef _ _ _ _ _ _ s _ _ _ => s
  | _ => default
noncomputable def paramsOf : Stmt → Arguments
  | .FunctionDef _ a _ _ _ _ _ _ _ _ => a
  | _ => default
noncomputable def subB : Stmt → List Stmt
  | .If _ b _ _ => b
  | .For _ _ b _ _ => b
  | _ => []
noncomputable def subE : Stmt → List Stmt
  | .If _ _ b _ => b
  | _ => []
noncomputable def bodyAt (k : Nat) : List Stmt := bodyOf (stmtAt k)
noncomputable def scopeAt (k : Nat) : Scope := scopeOf (stmtAt k)
noncomputable def scopeNames (k : Nat) : List (Str × NameKind) := (scopeAt k).names
noncomputable def paramsAt (k : Nat) : Arguments := paramsOf (stmtAt k)

set_option genInjectivity false in
/-- one function of the text, in the world -/
structure DefAt (X : Top0) (f : Str) (k : Nat) where
  fa : Addr
  o : Obj
  pm : Value
  cd : Value
  doc : Value
  hv : X.mg f = some (.ref fa)
  ho : X.W₀ fa = some o
  hdata : o.data = .func (Calls.docDef f (paramsAt k) (bodyAt k) (scopeAt k) pm cd doc)
  hcd : ∀ h, Good X.W₀ h → h.CodeRec cd f
set_option genInjectivity false in
structure Tops (X : Top0) where
  d_hls : DefAt X (Str.ofString "rgb_to_hls") 2
  d_hsv : DefAt X (Str.ofString "rgb_to_hsv") 3
  d_esc : DefAt X (Str.ofString "_iter_escaped_chars") 5
  d_strip : DefAt X (Str.ofString "_strip_quoted_realnames") 6
  d_check : DefAt X (Str.ofString "_check_parenthesis") 7
  d_quote : DefAt X (Str.ofString "quotedata") 12
  d_word : DefAt X (Str.ofString "_law_word") 14
  d_ties : DefAt X (Str.ofString "_law_ties") 15
  d_way : DefAt X (Str.ofString "_law_way") 16
  d_row : DefAt X (Str.ofString "_law_row") 17
  d_rows : DefAt X (Str.ofString "_law_rows") 18
  d_even : DefAt X (Str.ofString "_law_even") 19
  d_next : DefAt X (Str.ofString "_law_next") 20
  d_law : DefAt X (Str.ofString "law") 21
  a_pat1 : Addr
  a_pat2 : Addr
  v_pat1 : X.mg (Str.ofString "_twin_re_1") = some (.ref a_pat1)
  v_pat2 : X.mg (Str.ofString "_twin_re_2") = some (.ref a_pat2)
  pat1 : ∀ h, Good X.W₀ h → PatAt h a_pat1 C1
  pat2 : ∀ h, Good X.W₀ h → PatAt h a_pat2 C2
  t_crlf : Tok
  crlf : X.mg (Str.ofString "CRLF") = some (.str (Str.ofString "\r\n") t_crlf)
  n_len : X.mg (Str.ofString "len") = none
  b_len : X.mb (Str.ofString "len") = some (.builtin "len")
  n_sum : X.mg (Str.ofString "sum") = none
  b_sum : X.mb (Str.ofString "sum") = some (.builtin "sum")
  n_min : X.mg (Str.ofString "min") = none
  b_min : X.mb (Str.ofString "min") = some (.builtin "min")
  n_max : X.mg (Str.ofString "max") = none
  b_max : X.mb (Str.ofString "max") = some (.builtin "max")
  n_int : X.mg (Str.ofString "int") = none
  b_int : X.mb (Str.ofString "int") = some (.type "int")
  n_range : X.mg (Str.ofString "range") = none
  b_range : X.mb (Str.ofString "range") = some (.type "range")
  n_enumerate : X.mg (Str.ofString "enumerate") = none
  b_enumerate : X.mb (Str.ofString "enumerate") = some (.type "enumerate")

/- a comprehension's layout, checked -/
noncomputable def isK (l : List (Str × NameKind)) (x : Str) (k : NameKind) : Bool := l.lookup x == some k
noncomputable def locOk (layc : Lay) : Nat → List Str → Bool
  | 0, _ => true
  | _, [] => true
  | k + 1, x :: l => isK layc.names x .local && locOk layc k l
noncomputable def capOk (lay layc : Lay) (names : List (Str × NameKind)) : List Nat → List Str → Bool
  | i :: is, x :: l => (lay.slots[i]? == some x && (isK lay.names x .cell && (isK names x .free && isK layc.names x .cell))) && capOk lay layc names is l
  | _, _ => true
noncomputable def compOk (lay layc : Lay) (names : List (Str × NameKind)) (caps : List Nat) : Bool :=
  (layc.names == relN lay.names names) && (locOk layc layc.wr layc.slots && (capOk lay layc names caps (layc.slots.drop layc.wr) && (decide layc.slots.Nodup &&
  (names.all (fun y => !(y.2 == .free) || isK lay.names y.1 .cell) && (layc.names.all (fun y => !(y.2 == .cell) || (isK lay.names y.1 .cell && isK names y.1 .free)) &&
  (names.all (fun y => !(y.2 == .cell)) && names.all (fun y => !(y.2 == .local) || isK names y.1 .local)))))))
theorem isK_iff {l : List (Str × NameKind)} {x : Str} {k : NameKind} (h : isK l x k = true) : l.lookup x = some k := by
  unfold isK at h; exact eq_of_beq h
theorem locOk_at {layc : Lay} : ∀ (k : Nat) (l : List Str) (i : Nat) (x : Str), locOk layc k l = true → i < k → l[i]? = some x → layc.names.lookup x = some .local
  | 0, _, i, x, _, hi, _ => absurd hi (Nat.not_lt_zero _)
  | k + 1, [], i, x, _, _, hx => by simp at hx
  | k + 1, y :: l, i, x, h, hi, hx => by
    simp only [locOk, Bool.and_eq_true] at h
    cases i with
    | zero => simp at hx; subst hx; exact isK_iff h.1
    | succ i => exact locOk_at k l i x h.2 (by (apply Nat.le_of_lt_succ; assumption)) (by simpa using hx)
theorem capOk_at {lay layc : Lay} {names : List (Str × NameKind)} : ∀ (is : List Nat) (l : List Str) (j i : Nat) (x : Str), capOk lay layc names is l = true → is[j]? = some i → l[j]? = some x →
    lay.slots[i]? = some x ∧ lay.names.lookup x = some .cell ∧ names.lookup x = some .free ∧ layc.names.lookup x = some .cell
  | [], _, j, i, x, _, hi, _ => by simp at hi
  | _ :: _, [], j, i, x, _, _, hx => by simp at hx
  | i' :: is, y :: l, j, i, x, h, hi, hx => by
    simp only [capOk, Bool.and_eq_true] at h
    cases j with
    | zero =>
      simp at hx hi; subst hx; subst hi
      exact ⟨eq_of_beq h.1.1, isK_iff h.1.2.1, isK_iff h.1.2.2.1, isK_iff h.1.2.2.2⟩
    | succ j => exact capOk_at is l j i x h.2 (by simpa using hi) (by simpa using hx)
theorem lookup_mem {k : NameKind} {x : Str} : ∀ {l : List (Str × NameKind)}, l.lookup x = some k → (x, k) ∈ l
  | [], h => by simp at h
  | (y, k') :: l, h => by
    simp only [List.lookup] at h
    split at h
    · rename_i e; cases h; have := eq_of_beq e; subst this; exact List.mem_cons_self
    · exact List.mem_cons_of_mem _ (lookup_mem h)
theorem kind_eq {a b : NameKind} (h : a = b) : (a == b) = true := by subst h; cases a <;> rfl
theorem comp_lay {lay layc : Lay} {scope : Scope} {caps : List Nat} (h : compOk lay layc scope.names caps = true) (hk : scope.kind = .function) : CompLay lay layc scope caps := by
  unfold compOk at h
  simp only [Bool.and_eq_true] at h
  obtain ⟨h1, h2, h3, h4, h5, h6, h7, h8⟩ := h
  have h4 := of_decide_eq_true h4
  refine ⟨eq_of_beq h1, fun i x hi hx => locOk_at _ _ i x h2 hi hx, fun j i x hj hx => capOk_at _ _ j i x h3 hj (by simpa using hx), fun i j x hi hj => ?_, fun y hy hf => ?_, fun x hx => ?_, fun y hy hf => ?_, fun y hy hf => ?_, hk⟩
  · have hl : i < layc.slots.length := (List.getElem?_eq_some_iff.mp hi).1
    exact (List.getElem?_inj hl h4).mp (hi.trans hj.symm)
  · have := List.all_eq_true.mp h5 y hy
    rw [kind_eq hf] at this
    exact isK_iff (by simpa using this)
  · have := List.all_eq_true.mp h6 _ (lookup_mem hx)
    have e : ((NameKind.cell == NameKind.cell) = true) := rfl
    simp only [e, Bool.not_true, Bool.false_or, Bool.and_eq_true] at this
    exact ⟨isK_iff this.1, isK_iff this.2⟩
  · have := List.all_eq_true.mp h7 y hy
    rw [kind_eq hf] at this
    cases this
  · have := List.all_eq_true.mp h8 y hy
    rw [kind_eq hf] at this
    exact isK_iff (by simpa using this)
/- is a comprehension's list handed to the name at once -/
theorem swaps_is {elt : Expr} {gs : List Comprehension} {scope : Scope} {pos tp : Pos} {t : Str} {line : Nat} {env : Env} {names : List (Str × NameKind)} {b : Bool} (h1 : env.scope.kind = .function) (h2 : env.scope.names = names)
    (h : (names.lookup t == some .local && tp.line == pos.line && !(scope.names.any fun (n, k) => n == t && (k == .local || k == .cell))) = b) : swapsWith (.ListComp elt gs scope pos) (some (.Name t tp)) line env = pure b := by
  show (pure (env.blockKind == .function && env.kindOf t == some .local && tp.line == pos.line && !(scope.names.any fun (n, k) => n == t && (k == .local || k == .cell))) : Sem Bool) = pure b
  have e1 : env.blockKind = .function := by unfold Env.blockKind; rw [h1]; rfl
  have e2 : env.kindOf t = names.lookup t := by unfold Env.kindOf; rw [h2]
  rw [e1, e2, ← h]
  rfl
end Mine
end

section
open PySem PySem.W PyProof.Rows PySem.Builtin
set_option Elab.async false
set_option autoImplicit false
set_option linter.unusedVariables false
set_option maxRecDepth 100000
namespace Mine
section
variable {X : Top0}
noncomputable def lay_hls : Lay := { slots := [(Str.ofString "r"), (Str.ofString "g"), (Str.ofString "b"), (Str.ofString "maxc"), (Str.ofString "minc"), (Str.ofString "sumc"), (Str.ofString "rangec"), (Str.ofString "l"), (Str.ofString "s"), (Str.ofString "rc"), (Str.ofString "gc"), (Str.ofString "bc"), (Str.ofString "h")], wr := 13, names := scopeNames 2 }
noncomputable def D_hls : DenS := (dSeq (dSet 3 (dCall fMax (dCons (dName 0) (dCons (dName 1) (dCons (dName 2) dNil))))) (dSeq (dSet 4 (dCall fMin (dCons (dName 0) (dCons (dName 1) (dCons (dName 2) dNil))))) (dSeq (dSet 5 (dBin fAddF (dName 3) (dName 4))) (dSeq (dSet 6 (dBin fSubF (dName 3) (dName 4))) (dSeq (dSet 7 (dBin fDivF (dName 5) (fun _ => some (.flt 4611686018427387904)))) (dSeq (dIfS (dCmp cEqF (dName 4) (dName 3)) (dSeq (dRet (dTup (dCons (fun _ => some (.flt 0)) (dCons (dName 7) (dCons (fun _ => some (.flt 0)) dNil))))) dDone) dDone) (dSeq (dIfS (dCmp cLeF (dName 7) (fun _ => some (.flt 4602678819172646912))) (dSeq (dSet 8 (dBin fDivF (dName 6) (dName 5))) dDone) (dSeq (dSet 8 (dBin fDivF (dName 6) (dBin fSubF (dBin fSubF (fun _ => some (.flt 4611686018427387904)) (dName 3)) (dName 4)))) dDone)) (dSeq (dSet 9 (dBin fDivF (dBin fSubF (dName 3) (dName 0)) (dName 6))) (dSeq (dSet 10 (dBin fDivF (dBin fSubF (dName 3) (dName 1)) (dName 6))) (dSeq (dSet 11 (dBin fDivF (dBin fSubF (dName 3) (dName 2)) (dName 6))) (dSeq (dIfS (dCmp cEqF (dName 0) (dName 3)) (dSeq (dSet 12 (dBin fSubF (dName 11) (dName 10))) dDone) (dSeq (dIfS (dCmp cEqF (dName 1) (dName 3)) (dSeq (dSet 12 (dBin fSubF (dBin fAddF (fun _ => some (.flt 4611686018427387904)) (dName 9)) (dName 11))) dDone) (dSeq (dSet 12 (dBin fSubF (dBin fAddF (fun _ => some (.flt 4616189618054758400)) (dName 10)) (dName 9))) dDone)) dDone)) (dSeq (dSet 12 (dBin fModF (dBin fDivF (dName 12) (fun _ => some (.flt 4618441417868443648))) (fun _ => some (.flt 4607182418800017408)))) (dSeq (dRet (dTup (dCons (dName 12) (dCons (dName 7) (dCons (dName 8) dNil))))) dDone)))))))))))))
theorem S_hls (T : Tops X) : SOk X 0 lay_hls (bodyAt 2) D_hls := (s_cons (st_assign 3 (by decide) rfl (e_blt (by decide +kernel) T.n_max T.b_max c_max (es_cons (e_name 0 rfl) (es_cons (e_name 1 rfl) (es_cons (e_name 2 rfl) es_nil))))) (s_cons (st_assign 4 (by decide) rfl (e_blt (by decide +kernel) T.n_min T.b_min c_min (es_cons (e_name 0 rfl) (es_cons (e_name 1 rfl) (es_cons (e_name 2 rfl) es_nil))))) (s_cons (st_assign 5 (by decide) rfl (e_bin (e_name 3 rfl) (e_name 4 rfl) b_addF)) (s_cons (st_assign 6 (by decide) rfl (e_bin (e_name 3 rfl) (e_name 4 rfl) b_subF)) (s_cons (st_assign 7 (by decide) rfl (e_bin (e_name 5 rfl) e_flt b_divF)) (s_cons (st_if (t_cmp (e_name 4 rfl) (e_name 3 rfl) c_eqF) (s_cons (st_ret (e_tup (es_cons e_flt (es_cons (e_name 7 rfl) (es_cons e_flt es_nil))))) s_nil) s_nil) (s_cons (st_if (t_cmp (e_name 7 rfl) e_flt c_leF) (s_cons (st_assign 8 (by decide) rfl (e_bin (e_name 6 rfl) (e_name 5 rfl) b_divF)) s_nil) (s_cons (st_assign 8 (by decide) rfl (e_bin (e_name 6 rfl) (e_bin (e_bin e_flt (e_name 3 rfl) b_subF) (e_name 4 rfl) b_subF) b_divF)) s_nil)) (s_cons (st_assign 9 (by decide) rfl (e_bin (e_bin (e_name 3 rfl) (e_name 0 rfl) b_subF) (e_name 6 rfl) b_divF)) (s_cons (st_assign 10 (by decide) rfl (e_bin (e_bin (e_name 3 rfl) (e_name 1 rfl) b_subF) (e_name 6 rfl) b_divF)) (s_cons (st_assign 11 (by decide) rfl (e_bin (e_bin (e_name 3 rfl) (e_name 2 rfl) b_subF) (e_name 6 rfl) b_divF)) (s_cons (st_if (t_cmp (e_name 0 rfl) (e_name 3 rfl) c_eqF) (s_cons (st_assign 12 (by decide) rfl (e_bin (e_name 11 rfl) (e_name 10 rfl) b_subF)) s_nil) (s_cons (st_if (t_cmp (e_name 1 rfl) (e_name 3 rfl) c_eqF) (s_cons (st_assign 12 (by decide) rfl (e_bin (e_bin e_flt (e_name 9 rfl) b_addF) (e_name 11 rfl) b_subF)) s_nil) (s_cons (st_assign 12 (by decide) rfl (e_bin (e_bin e_flt (e_name 10 rfl) b_addF) (e_name 9 rfl) b_subF)) s_nil)) s_nil)) (s_cons (st_assign 12 (by decide) rfl (e_bin (e_bin (e_name 12 rfl) e_flt b_divF) e_flt b_modF)) (s_cons (st_ret (e_tup (es_cons (e_name 12 rfl) (es_cons (e_name 7 rfl) (es_cons (e_name 8 rfl) es_nil))))) s_nil)))))))))))))
noncomputable def F_hls : List PV → Option PV := callDef 10 3 D_hls
theorem DL_hls : DefLay lay_hls [(Str.ofString "r"), (Str.ofString "g"), (Str.ofString "b")] (scopeAt 2) := ⟨rfl, rfl, rfl, by decide +kernel, by decide +kernel⟩
theorem call_hls (T : Tops X) : CallOk X 1 (.ref T.d_hls.fa) F_hls := call_ok (xs := [(Str.ofString "r"), (Str.ofString "g"), (Str.ofString "b")]) 10 T.d_hls.ho T.d_hls.hdata T.d_hls.hcd DL_hls (S_hls T) (elim3 fun _ _ _ => rfl)
noncomputable def lay_hsv : Lay := { slots := [(Str.ofString "r"), (Str.ofString "g"), (Str.ofString "b"), (Str.ofString "maxc"), (Str.ofString "minc"), (Str.ofString "rangec"), (Str.ofString "v"), (Str.ofString "s"), (Str.ofString "rc"), (Str.ofString "gc"), (Str.ofString "bc"), (Str.ofString "h")], wr := 12, names := scopeNames 3 }
noncomputable def D_hsv : DenS := (dSeq (dSet 3 (dCall fMax (dCons (dName 0) (dCons (dName 1) (dCons (dName 2) dNil))))) (dSeq (dSet 4 (dCall fMin (dCons (dName 0) (dCons (dName 1) (dCons (dName 2) dNil))))) (dSeq (dSet 5 (dBin fSubF (dName 3) (dName 4))) (dSeq (dSet 6 (dName 3)) (dSeq (dIfS (dCmp cEqF (dName 4) (dName 3)) (dSeq (dRet (dTup (dCons (fun _ => some (.flt 0)) (dCons (fun _ => some (.flt 0)) (dCons (dName 6) dNil))))) dDone) dDone) (dSeq (dSet 7 (dBin fDivF (dName 5) (dName 3))) (dSeq (dSet 8 (dBin fDivF (dBin fSubF (dName 3) (dName 0)) (dName 5))) (dSeq (dSet 9 (dBin fDivF (dBin fSubF (dName 3) (dName 1)) (dName 5))) (dSeq (dSet 10 (dBin fDivF (dBin fSubF (dName 3) (dName 2)) (dName 5))) (dSeq (dIfS (dCmp cEqF (dName 0) (dName 3)) (dSeq (dSet 11 (dBin fSubF (dName 10) (dName 9))) dDone) (dSeq (dIfS (dCmp cEqF (dName 1) (dName 3)) (dSeq (dSet 11 (dBin fSubF (dBin fAddF (fun _ => some (.flt 4611686018427387904)) (dName 8)) (dName 10))) dDone) (dSeq (dSet 11 (dBin fSubF (dBin fAddF (fun _ => some (.flt 4616189618054758400)) (dName 9)) (dName 8))) dDone)) dDone)) (dSeq (dSet 11 (dBin fModF (dBin fDivF (dName 11) (fun _ => some (.flt 4618441417868443648))) (fun _ => some (.flt 4607182418800017408)))) (dSeq (dRet (dTup (dCons (dName 11) (dCons (dName 7) (dCons (dName 6) dNil))))) dDone))))))))))))
theorem S_hsv (T : Tops X) : SOk X 0 lay_hsv (bodyAt 3) D_hsv := (s_cons (st_assign 3 (by decide) rfl (e_blt (by decide +kernel) T.n_max T.b_max c_max (es_cons (e_name 0 rfl) (es_cons (e_name 1 rfl) (es_cons (e_name 2 rfl) es_nil))))) (s_cons (st_assign 4 (by decide) rfl (e_blt (by decide +kernel) T.n_min T.b_min c_min (es_cons (e_name 0 rfl) (es_cons (e_name 1 rfl) (es_cons (e_name 2 rfl) es_nil))))) (s_cons (st_assign 5 (by decide) rfl (e_bin (e_name 3 rfl) (e_name 4 rfl) b_subF)) (s_cons (st_assign 6 (by decide) rfl (e_name 3 rfl)) (s_cons (st_if (t_cmp (e_name 4 rfl) (e_name 3 rfl) c_eqF) (s_cons (st_ret (e_tup (es_cons e_flt (es_cons e_flt (es_cons (e_name 6 rfl) es_nil))))) s_nil) s_nil) (s_cons (st_assign 7 (by decide) rfl (e_bin (e_name 5 rfl) (e_name 3 rfl) b_divF)) (s_cons (st_assign 8 (by decide) rfl (e_bin (e_bin (e_name 3 rfl) (e_name 0 rfl) b_subF) (e_name 5 rfl) b_divF)) (s_cons (st_assign 9 (by decide) rfl (e_bin (e_bin (e_name 3 rfl) (e_name 1 rfl) b_subF) (e_name 5 rfl) b_divF)) (s_cons (st_assign 10 (by decide) rfl (e_bin (e_bin (e_name 3 rfl) (e_name 2 rfl) b_subF) (e_name 5 rfl) b_divF)) (s_cons (st_if (t_cmp (e_name 0 rfl) (e_name 3 rfl) c_eqF) (s_cons (st_assign 11 (by decide) rfl (e_bin (e_name 10 rfl) (e_name 9 rfl) b_subF)) s_nil) (s_cons (st_if (t_cmp (e_name 1 rfl) (e_name 3 rfl) c_eqF) (s_cons (st_assign 11 (by decide) rfl (e_bin (e_bin e_flt (e_name 8 rfl) b_addF) (e_name 10 rfl) b_subF)) s_nil) (s_cons (st_assign 11 (by decide) rfl (e_bin (e_bin e_flt (e_name 9 rfl) b_addF) (e_name 8 rfl) b_subF)) s_nil)) s_nil)) (s_cons (st_assign 11 (by decide) rfl (e_bin (e_bin (e_name 11 rfl) e_flt b_divF) e_flt b_modF)) (s_cons (st_ret (e_tup (es_cons (e_name 11 rfl) (es_cons (e_name 7 rfl) (es_cons (e_name 6 rfl) es_nil))))) s_nil))))))))))))
noncomputable def F_hsv : List PV → Option PV := callDef 9 3 D_hsv
theorem DL_hsv : DefLay lay_hsv [(Str.ofString "r"), (Str.ofString "g"), (Str.ofString "b")] (scopeAt 3) := ⟨rfl, rfl, rfl, by decide +kernel, by decide +kernel⟩
theorem call_hsv (T : Tops X) : CallOk X 1 (.ref T.d_hsv.fa) F_hsv := call_ok (xs := [(Str.ofString "r"), (Str.ofString "g"), (Str.ofString "b")]) 9 T.d_hsv.ho T.d_hsv.hdata T.d_hsv.hcd DL_hsv (S_hsv T) (elim3 fun _ _ _ => rfl)
end
end Mine
end

section
open PySem PySem.W PyProof.Rows PySem.Builtin
set_option Elab.async false
set_option autoImplicit false
set_option linter.unusedVariables false
set_option maxRecDepth 100000
namespace Mine
section
variable {X : Top0}
noncomputable def lay_quote : Lay := { slots := [(Str.ofString "data")], wr := 1, names := scopeNames 12 }
noncomputable def D_quote : DenS := (dSeq (dRet (dCall (fSub next1) (dCons (fun _ => some (.str (Str.ofString ".."))) (dCons (dCall (fSub next2) (dCons (fun _ => some (.str (Str.ofString "\r\n"))) (dCons (dName 0) dNil))) dNil)))) dDone)
theorem S_quote (T : Tops X) : SOk X 0 lay_quote (bodyAt 12) D_quote := (s_cons (st_ret (e_sub (Kf := fun n => 3 * n + 10) (by decide +kernel) T.v_pat1 T.pat1 (nextOk1) (by intro n h; lia) (es_cons e_str (es_cons (e_sub (Kf := fun _ => 40) (by decide +kernel) T.v_pat2 T.pat2 (nextOk2) (by intro n h; exact Nat.le_add_left _ _) (es_cons (e_gstr (by decide +kernel) T.crlf) (es_cons (e_name 0 rfl) es_nil))) es_nil)))) s_nil)
noncomputable def F_quote : List PV → Option PV := callDef 0 1 D_quote
theorem DL_quote : DefLay lay_quote [(Str.ofString "data")] (scopeAt 12) := ⟨rfl, rfl, rfl, by decide +kernel, by decide +kernel⟩
theorem call_quote (T : Tops X) : CallOk X 1 (.ref T.d_quote.fa) F_quote := call_ok (xs := [(Str.ofString "data")]) 0 T.d_quote.ho T.d_quote.hdata T.d_quote.hcd DL_quote (S_quote T) (elim1 fun _ => rfl)
noncomputable def lay_word : Lay := { slots := [(Str.ofString "numbers"), (Str.ofString "word"), (Str.ofString "number"), (Str.ofString "many"), (Str.ofString "most"), (Str.ofString "free")], wr := 6, names := scopeNames 14 }
noncomputable def layc_word_1 : Lay := { slots := [(Str.ofString "sign"), (Str.ofString "word")], wr := 1, names := [((Str.ofString ".0"), .local), ((Str.ofString "sign"), .local), ((Str.ofString "word"), .cell)] }
theorem CL_word_1 {scope : Scope} (hn : scope.names = [((Str.ofString ".0"), .local), ((Str.ofString "sign"), .local), ((Str.ofString "word"), .free)]) (hk : scope.kind = .function) : CompLay lay_word layc_word_1 scope [1] := comp_lay (by rw [hn]; decide +kernel) hk
noncomputable def C_word_1 : Den := dComp (sStr (fun _ => some (.str (Str.ofString "rgb")))) 1 [1] (uName 0) dYes (dMeth isL fCntL (dName 1) (dCons (dName 0) dNil))
noncomputable def layc_word_2 : Lay := { slots := [(Str.ofString "k"), (Str.ofString "sign"), (Str.ofString "many"), (Str.ofString "most")], wr := 2, names := [((Str.ofString ".0"), .local), ((Str.ofString "k"), .local), ((Str.ofString "sign"), .local), ((Str.ofString "many"), .cell), ((Str.ofString "most"), .cell)] }
theorem CL_word_2 {scope : Scope} (hn : scope.names = [((Str.ofString ".0"), .local), ((Str.ofString "k"), .local), ((Str.ofString "sign"), .local), ((Str.ofString "many"), .free), ((Str.ofString "most"), .free)]) (hk : scope.kind = .function) : CompLay lay_word layc_word_2 scope [3, 4] := comp_lay (by rw [hn]; decide +kernel) hk
noncomputable def C_word_2 : Den := dComp (sEnum (fun _ => some (.str (Str.ofString "rgb")))) 2 [3, 4] (uTup [0, 1]) (dCmp cLtI (dItem (dName 2) (dName 0)) (dItem (dName 3) (dName 0))) (dName 1)
noncomputable def B_word_1 : DenS := (dSeq (dLend 1 3 C_word_1) (dSeq (dOwn 4 (dCons (dBin fDivI (dBin fAddI (dCall fLen (dCons (dName 0) dNil)) (fun _ => some (.int (1)))) (fun _ => some (.int (3)))) (dCons (dItem (dName 3) (fun _ => some (.int (0)))) (dCons (dItem (dName 3) (fun _ => some (.int (0)))) dNil)))) (fun ρ => (dSeq (dSet 5 C_word_2) (dSeq (dApp 1 (dItem (dName 5) (dBin fModI (dName 2) (dCall fLen (dCons (dName 5) dNil))))) dDone)) (frz 4 ρ))))
theorem SB_word_1 (T : Tops X) : SOk X 0 lay_word (subB ((bodyAt 14).getD 1 dStmt)) B_word_1 := (s_cons (st_lend 1 3 (by decide) rfl rfl (e_comp (CL_word_1 (by rfl) (by rfl)) (src_str e_str) (tg_name 0 (by decide) rfl) (upd_name 0) c_nil (e_meth (e_name 1 rfl) g_cntL c_cntL (es_cons (e_name 0 rfl) es_nil))) (by intro env h1 h2; exact swaps_is h1 h2 (by decide +kernel))) (s_cons (st_own 4 (by decide) rfl (es_cons (e_bin (e_bin (e_blt (by decide +kernel) T.n_len T.b_len c_len (es_cons (e_name 0 rfl) es_nil)) e_int b_addI) e_int b_divI) (es_cons (e_item (e_name 3 rfl) e_int) (es_cons (e_item (e_name 3 rfl) e_int) es_nil)))) (s_freeze 4 rfl (s_cons (st_comp 5 (by decide) rfl (CL_word_2 (by rfl) (by rfl)) (src_enum e_str (by decide +kernel) T.n_enumerate T.b_enumerate) (tg_tup (.cons (by decide) rfl (.cons (by decide) rfl .nil))) (upd_tup [0, 1]) (c_one (t_cmp (e_item (e_name 2 rfl) (e_name 0 rfl)) (e_item (e_name 3 rfl) (e_name 0 rfl)) c_ltI)) (e_name 1 rfl) (by intro env h1 h2; exact swaps_is h1 h2 (by decide +kernel))) (s_cons (st_app 1 rfl (e_item (e_name 5 rfl) (e_bin (e_name 2 rfl) (e_blt (by decide +kernel) T.n_len T.b_len c_len (es_cons (e_name 5 rfl) es_nil)) b_modI))) s_nil)))))
noncomputable def D_word : DenS := (dSeq (dOwn 1 (dCons (fun _ => some (.str (Str.ofString "r"))) dNil)) (dSeq (dFor (sList (dName 0)) (uName 2) B_word_1) (fun ρ => (dSeq (dRet (dName 1)) dDone) (frz 1 ρ))))
theorem S_word (T : Tops X) : SOk X 0 lay_word (bodyAt 14) D_word := (s_cons (st_own 1 (by decide) rfl (es_cons e_str es_nil)) (s_cons (st_for  (src_list (e_name 0 rfl)) (tg_name 2 (by decide) rfl) (SB_word_1 T)) (s_freeze 1 rfl (s_cons (st_ret (e_name 1 rfl)) s_nil))))
noncomputable def F_word : List PV → Option PV := callDef 5 1 D_word
theorem DL_word : DefLay lay_word [(Str.ofString "numbers")] (scopeAt 14) := ⟨rfl, rfl, rfl, by decide +kernel, by decide +kernel⟩
theorem call_word (T : Tops X) : CallOk X 1 (.ref T.d_word.fa) F_word := call_ok (xs := [(Str.ofString "numbers")]) 5 T.d_word.ho T.d_word.hdata T.d_word.hcd DL_word (S_word T) (elim1 fun _ => rfl)
noncomputable def lay_row : Lay := { slots := [(Str.ofString "word"), (Str.ofString "ways"), (Str.ofString "place"), (Str.ofString "step"), (Str.ofString "turned"), (Str.ofString "red"), (Str.ofString "later")], wr := 7, names := scopeNames 17 }
noncomputable def D_row : DenS := (dSeq (dSet 4 (dMeth isL fIdxL (dName 1) (dCons (dName 2) dNil))) (dSeq (dIfS (dCmp cEqS (dItem (dName 0) (dName 2)) (fun _ => some (.str (Str.ofString "r")))) (dSeq (dSet 5 (dB (dOr (dCmp cLeI (dName 3) (dName 2)) (dCmp cGtI (dName 3) (dName 4))))) (dSeq (dSet 6 (dItem (dName 0) (dItem (dName 1) (dName 2)))) dDone)) (dSeq (dSet 5 (dB (dCmp2 cLtI cLeI (dName 4) (dName 3) (dName 2)))) (dSeq (dSet 6 (dIf (dCmp cEqS (dItem (dName 0) (dName 2)) (fun _ => some (.str (Str.ofString "g")))) (fun _ => some (.str (Str.ofString "b"))) (fun _ => some (.str (Str.ofString "g"))))) dDone))) (dSeq (dIfS (dTrue (dName 5)) (dSeq (dRet (dBin fMulSI (fun _ => some (.str (Str.ofString "."))) (dBin fAddI (fun _ => some (.int (1))) (dBin fModI (dBin fSubI (dName 3) (dName 4)) (dCall fLen (dCons (dName 0) dNil)))))) dDone) dDone) (dSeq (dRet (dBin fAddS (dIf (dCmp cGtI (dName 3) (dName 2)) (dName 6) (dItem (dName 0) (dName 2))) (fun _ => some (.str (Str.ofString "."))))) dDone))))
theorem S_row (T : Tops X) : SOk X 0 lay_row (bodyAt 17) D_row := (s_cons (st_assign 4 (by decide) rfl (e_meth (e_name 1 rfl) g_idxL c_idxL (es_cons (e_name 2 rfl) es_nil))) (s_cons (st_if (t_cmp (e_item (e_name 0 rfl) (e_name 2 rfl)) e_str c_eqS) (s_cons (st_assign 5 (by decide) rfl (e_or (e_cmp (e_name 3 rfl) (e_name 2 rfl) c_leI) (e_cmp (e_name 3 rfl) (e_name 4 rfl) c_gtI))) (s_cons (st_assign 6 (by decide) rfl (e_item (e_name 0 rfl) (e_item (e_name 1 rfl) (e_name 2 rfl)))) s_nil)) (s_cons (st_assign 5 (by decide) rfl (e_cmp2 (e_name 4 rfl) (e_name 3 rfl) (e_name 2 rfl) c_ltI c_leI)) (s_cons (st_assign 6 (by decide) rfl (e_ife (t_cmp (e_item (e_name 0 rfl) (e_name 2 rfl)) e_str c_eqS) e_str e_str)) s_nil))) (s_cons (st_if (t_name (e_name 5 rfl)) (s_cons (st_ret (e_bin e_str (e_bin e_int (e_bin (e_bin (e_name 3 rfl) (e_name 4 rfl) b_subI) (e_blt (by decide +kernel) T.n_len T.b_len c_len (es_cons (e_name 0 rfl) es_nil)) b_modI) b_addI) b_mulSI)) s_nil) s_nil) (s_cons (st_ret (e_bin (e_ife (t_cmp (e_name 3 rfl) (e_name 2 rfl) c_gtI) (e_name 6 rfl) (e_item (e_name 0 rfl) (e_name 2 rfl))) e_str b_addS)) s_nil))))
noncomputable def F_row : List PV → Option PV := callDef 3 4 D_row
theorem DL_row : DefLay lay_row [(Str.ofString "word"), (Str.ofString "ways"), (Str.ofString "place"), (Str.ofString "step")] (scopeAt 17) := ⟨rfl, rfl, rfl, by decide +kernel, by decide +kernel⟩
theorem call_row (T : Tops X) : CallOk X 1 (.ref T.d_row.fa) F_row := call_ok (xs := [(Str.ofString "word"), (Str.ofString "ways"), (Str.ofString "place"), (Str.ofString "step")]) 3 T.d_row.ho T.d_row.hdata T.d_row.hcd DL_row (S_row T) (elim4 fun _ _ _ _ => rfl)
noncomputable def lay_rows : Lay := { slots := [(Str.ofString "word"), (Str.ofString "ways")], wr := 2, names := scopeNames 18 }
noncomputable def layc_rows_1 : Lay := { slots := [(Str.ofString "k"), (Str.ofString "sign"), (Str.ofString "ways"), (Str.ofString "word")], wr := 2, names := [((Str.ofString ".0"), .local), ((Str.ofString "k"), .local), ((Str.ofString "sign"), .local), ((Str.ofString "len"), .globalImplicit), ((Str.ofString "ways"), .cell), ((Str.ofString "word"), .cell)] }
theorem CL_rows_1 {scope : Scope} (hn : scope.names = [((Str.ofString ".0"), .local), ((Str.ofString "k"), .local), ((Str.ofString "sign"), .local), ((Str.ofString "len"), .globalImplicit), ((Str.ofString "ways"), .free), ((Str.ofString "word"), .free)]) (hk : scope.kind = .function) : CompLay lay_rows layc_rows_1 scope [1, 0] := comp_lay (by rw [hn]; decide +kernel) hk
noncomputable def C_rows_1 : Den := dComp (sEnum (dName 0)) 2 [1, 0] (uTup [0, 1]) dYes (dIf (dCmp cEqS (dName 1) (fun _ => some (.str (Str.ofString "r")))) (dBin fMulSI (fun _ => some (.str (Str.ofString "."))) (dBin fSubI (dCall fLen (dCons (dName 3) dNil)) (dMeth isL fIdxL (dName 2) (dCons (dName 0) dNil)))) (dBin fAddS (dName 1) (fun _ => some (.str (Str.ofString ".")))))
noncomputable def D_rows : DenS := (dSeq (dRet C_rows_1) dDone)
theorem S_rows (T : Tops X) : SOk X 0 lay_rows (bodyAt 18) D_rows := (s_cons (st_ret (e_comp (CL_rows_1 (by rfl) (by rfl)) (src_enum (e_name 0 rfl) (by decide +kernel) T.n_enumerate T.b_enumerate) (tg_tup (.cons (by decide) rfl (.cons (by decide) rfl .nil))) (upd_tup [0, 1]) c_nil (e_ife (t_cmp (e_name 1 rfl) e_str c_eqS) (e_bin e_str (e_bin (e_blt (by decide +kernel) T.n_len T.b_len c_len (es_cons (e_name 3 rfl) es_nil)) (e_meth (e_name 2 rfl) g_idxL c_idxL (es_cons (e_name 0 rfl) es_nil)) b_subI) b_mulSI) (e_bin (e_name 1 rfl) e_str b_addS)))) s_nil)
noncomputable def F_rows : List PV → Option PV := callDef 0 2 D_rows
theorem DL_rows : DefLay lay_rows [(Str.ofString "word"), (Str.ofString "ways")] (scopeAt 18) := ⟨rfl, rfl, rfl, by decide +kernel, by decide +kernel⟩
theorem call_rows (T : Tops X) : CallOk X 1 (.ref T.d_rows.fa) F_rows := call_ok (xs := [(Str.ofString "word"), (Str.ofString "ways")]) 0 T.d_rows.ho T.d_rows.hdata T.d_rows.hcd DL_rows (S_rows T) (elim2 fun _ _ => rfl)
end
end Mine
end

section
open PySem PySem.W PyProof.Rows PySem.Builtin
set_option Elab.async false
set_option autoImplicit false
set_option linter.unusedVariables false
set_option maxRecDepth 100000
namespace Mine
section
variable {X : Top0}
noncomputable def lay_way : Lay := { slots := [(Str.ofString "own"), (Str.ofString "others"), (Str.ofString "place"), (Str.ofString "first"), (Str.ofString "last"), (Str.ofString "bound"), (Str.ofString "turn"), (Str.ofString "cross"), (Str.ofString "over"), (Str.ofString "past"), (Str.ofString "back")], wr := 11, names := scopeNames 16 }
noncomputable def layc_way_1 : Lay := { slots := [(Str.ofString "tie"), (Str.ofString "place")], wr := 1, names := [((Str.ofString ".0"), .local), ((Str.ofString "tie"), .local), ((Str.ofString "place"), .cell)] }
theorem CL_way_1 {scope : Scope} (hn : scope.names = [((Str.ofString ".0"), .local), ((Str.ofString "tie"), .local), ((Str.ofString "place"), .free)]) (hk : scope.kind = .function) : CompLay lay_way layc_way_1 scope [2] := comp_lay (by rw [hn]; decide +kernel) hk
noncomputable def C_way_1 : Den := dComp (sList (dName 0)) 1 [2] (uName 0) (dCmp cEqI (dItem (dName 0) (fun _ => some (.int (1)))) (dName 1)) (dName 0)
noncomputable def layc_way_2 : Lay := { slots := [(Str.ofString "tie"), (Str.ofString "bound"), (Str.ofString "first"), (Str.ofString "last")], wr := 1, names := [((Str.ofString ".0"), .local), ((Str.ofString "tie"), .local), ((Str.ofString "bound"), .cell), ((Str.ofString "first"), .cell), ((Str.ofString "last"), .cell)] }
theorem CL_way_2 {scope : Scope} (hn : scope.names = [((Str.ofString ".0"), .local), ((Str.ofString "tie"), .local), ((Str.ofString "bound"), .free), ((Str.ofString "first"), .free), ((Str.ofString "last"), .free)]) (hk : scope.kind = .function) : CompLay lay_way layc_way_2 scope [5, 3, 4] := comp_lay (by rw [hn]; decide +kernel) hk
noncomputable def C_way_2 : Den := dComp (sList (dName 1)) 1 [5, 3, 4] (uName 0) (dAnd (dCmp2 cLtI cLtI (dName 2) (dItem (dName 0) (fun _ => some (.int (0)))) (dName 1)) (dCmp cLtI (dName 3) (dItem (dName 0) (fun _ => some (.int (1)))))) (dName 0)
noncomputable def layc_way_3 : Lay := { slots := [(Str.ofString "tie"), (Str.ofString "first")], wr := 1, names := [((Str.ofString ".0"), .local), ((Str.ofString "tie"), .local), ((Str.ofString "first"), .cell)] }
theorem CL_way_3 {scope : Scope} (hn : scope.names = [((Str.ofString ".0"), .local), ((Str.ofString "tie"), .local), ((Str.ofString "first"), .free)]) (hk : scope.kind = .function) : CompLay lay_way layc_way_3 scope [3] := comp_lay (by rw [hn]; decide +kernel) hk
noncomputable def C_way_3 : Den := dComp (sList (dName 1)) 1 [3] (uName 0) (dCmp cEqI (dItem (dName 0) (fun _ => some (.int (0)))) (dName 1)) (dName 0)
noncomputable def layc_way_4 : Lay := { slots := [(Str.ofString "tie"), (Str.ofString "over"), (Str.ofString "past")], wr := 1, names := [((Str.ofString ".0"), .local), ((Str.ofString "tie"), .local), ((Str.ofString "over"), .cell), ((Str.ofString "past"), .cell)] }
theorem CL_way_4 {scope : Scope} (hn : scope.names = [((Str.ofString ".0"), .local), ((Str.ofString "tie"), .local), ((Str.ofString "over"), .free), ((Str.ofString "past"), .free)]) (hk : scope.kind = .function) : CompLay lay_way layc_way_4 scope [8, 9] := comp_lay (by rw [hn]; decide +kernel) hk
noncomputable def C_way_4 : Den := dComp (sList (dName 0)) 1 [8, 9] (uName 0) (dAnd (dCmp cLtI (dItem (dName 0) (fun _ => some (.int (0)))) (dItem (dName 1) (fun _ => some (.int (0))))) (dCmp2 cLtI cLtI (dName 2) (dItem (dName 0) (fun _ => some (.int (1)))) (dItem (dName 1) (fun _ => some (.int (1)))))) (dName 0)
noncomputable def layc_way_5 : Lay := { slots := [(Str.ofString "tie")], wr := 1, names := [((Str.ofString ".0"), .local), ((Str.ofString "tie"), .local)] }
theorem CL_way_5 {scope : Scope} (hn : scope.names = [((Str.ofString ".0"), .local), ((Str.ofString "tie"), .local)]) (hk : scope.kind = .function) : CompLay lay_way layc_way_5 scope [] := comp_lay (by rw [hn]; decide +kernel) hk
noncomputable def C_way_5 : Den := dComp (sList (dName 10)) 1 [] (uName 0) dYes (dItem (dName 0) (fun _ => some (.int (1))))
noncomputable def layc_way_6 : Lay := { slots := [(Str.ofString "tie"), (Str.ofString "last")], wr := 1, names := [((Str.ofString ".0"), .local), ((Str.ofString "tie"), .local), ((Str.ofString "last"), .cell)] }
theorem CL_way_6 {scope : Scope} (hn : scope.names = [((Str.ofString ".0"), .local), ((Str.ofString "tie"), .local), ((Str.ofString "last"), .free)]) (hk : scope.kind = .function) : CompLay lay_way layc_way_6 scope [4] := comp_lay (by rw [hn]; decide +kernel) hk
noncomputable def C_way_6 : Den := dComp (sList (dName 10)) 1 [4] (uName 0) (dCmp cEqI (dItem (dName 0) (fun _ => some (.int (1)))) (dName 1)) (dItem (dName 0) (fun _ => some (.int (0))))
noncomputable def B_way_1 : DenS := (dSeq (dSet 7 C_way_2) (dSeq (dIfS (dCmp cNeL (dName 7) (dList dNil)) (dSeq (dSet 8 (dCall fMax (dCons (dName 7) dNil))) (dSeq (dSet 9 (dName 4)) dDone)) (dSeq (dSet 8 (dItem C_way_3 (fun _ => some (.int (0))))) (dSeq (dSet 9 (dName 3)) (dSeq (dIfS (dCmp cLtI (dItem (dName 8) (fun _ => some (.int (1)))) (dName 4)) (dSeq (dRet (dName 3)) dDone) dDone) dDone)))) (dSeq (dSet 10 C_way_4) (dSeq (dIfS (dCmp cEqL (dName 10) (dList dNil)) (dSeq (dRet (dItem (dName 8) (fun _ => some (.int (1))))) dDone) dDone) (dSeq (dSet 4 (dCall fMin (dCons C_way_5 dNil))) (dSeq (dSet 3 (dItem C_way_6 (fun _ => some (.int (0))))) (dSeq (dSet 5 (dItem (dName 8) (fun _ => some (.int (0))))) dDone)))))))
theorem SB_way_1 (T : Tops X) : SOk X 0 lay_way (subB ((bodyAt 16).getD 2 dStmt)) B_way_1 := (s_cons (st_comp 7 (by decide) rfl (CL_way_2 (by rfl) (by rfl)) (src_list (e_name 1 rfl)) (tg_name 0 (by decide) rfl) (upd_name 0) (c_one (t_and (t_cmp2 (e_name 2 rfl) (e_item (e_name 0 rfl) e_int) (e_name 1 rfl) c_ltI c_ltI) (t_cmp (e_name 3 rfl) (e_item (e_name 0 rfl) e_int) c_ltI))) (e_name 0 rfl) (by intro env h1 h2; exact swaps_is h1 h2 (by decide +kernel))) (s_cons (st_if (t_cmp (e_name 7 rfl) (e_list es_nil) c_neL) (s_cons (st_assign 8 (by decide) rfl (e_blt (by decide +kernel) T.n_max T.b_max c_max (es_cons (e_name 7 rfl) es_nil))) (s_cons (st_assign 9 (by decide) rfl (e_name 4 rfl)) s_nil)) (s_cons (st_assign 8 (by decide) rfl (e_item (e_comp (CL_way_3 (by rfl) (by rfl)) (src_list (e_name 1 rfl)) (tg_name 0 (by decide) rfl) (upd_name 0) (c_one (t_cmp (e_item (e_name 0 rfl) e_int) (e_name 1 rfl) c_eqI)) (e_name 0 rfl)) e_int)) (s_cons (st_assign 9 (by decide) rfl (e_name 3 rfl)) (s_cons (st_if (t_cmp (e_item (e_name 8 rfl) e_int) (e_name 4 rfl) c_ltI) (s_cons (st_ret (e_name 3 rfl)) s_nil) s_nil) s_nil)))) (s_cons (st_comp 10 (by decide) rfl (CL_way_4 (by rfl) (by rfl)) (src_list (e_name 0 rfl)) (tg_name 0 (by decide) rfl) (upd_name 0) (c_one (t_and (t_cmp (e_item (e_name 0 rfl) e_int) (e_item (e_name 1 rfl) e_int) c_ltI) (t_cmp2 (e_name 2 rfl) (e_item (e_name 0 rfl) e_int) (e_item (e_name 1 rfl) e_int) c_ltI c_ltI))) (e_name 0 rfl) (by intro env h1 h2; exact swaps_is h1 h2 (by decide +kernel))) (s_cons (st_if (t_cmp (e_name 10 rfl) (e_list es_nil) c_eqL) (s_cons (st_ret (e_item (e_name 8 rfl) e_int)) s_nil) s_nil) (s_cons (st_assign 4 (by decide) rfl (e_blt (by decide +kernel) T.n_min T.b_min c_min (es_cons (e_comp (CL_way_5 (by rfl) (by rfl)) (src_list (e_name 10 rfl)) (tg_name 0 (by decide) rfl) (upd_name 0) c_nil (e_item (e_name 0 rfl) e_int)) es_nil))) (s_cons (st_assign 3 (by decide) rfl (e_item (e_comp (CL_way_6 (by rfl) (by rfl)) (src_list (e_name 10 rfl)) (tg_name 0 (by decide) rfl) (upd_name 0) (c_one (t_cmp (e_item (e_name 0 rfl) e_int) (e_name 1 rfl) c_eqI)) (e_item (e_name 0 rfl) e_int)) e_int)) (s_cons (st_assign 5 (by decide) rfl (e_item (e_name 8 rfl) e_int)) s_nil)))))))
noncomputable def D_way : DenS := (dSeq (dUn [3, 4] (dItem C_way_1 (fun _ => some (.int (0))))) (dSeq (dSet 5 (dName 4)) (dSeq (dFor (sRange1 (fun _ => some (.int (20)))) (uName 6) B_way_1) (dSeq (dRet (dNeg (fun _ => some (.int (1))))) dDone))))
theorem S_way (T : Tops X) : SOk X 0 lay_way (bodyAt 16) D_way := (s_cons (st_unpack (.cons (by decide) rfl (.cons (by decide) rfl .nil)) (e_item (e_comp (CL_way_1 (by rfl) (by rfl)) (src_list (e_name 0 rfl)) (tg_name 0 (by decide) rfl) (upd_name 0) (c_one (t_cmp (e_item (e_name 0 rfl) e_int) (e_name 1 rfl) c_eqI)) (e_name 0 rfl)) e_int)) (s_cons (st_assign 5 (by decide) rfl (e_name 4 rfl)) (s_cons (st_for  (src_range1 e_int (by decide +kernel) T.n_range T.b_range) (tg_name 6 (by decide) rfl) (SB_way_1 T)) (s_cons (st_ret (e_neg e_int)) s_nil))))
noncomputable def F_way : List PV → Option PV := callDef 8 3 D_way
theorem DL_way : DefLay lay_way [(Str.ofString "own"), (Str.ofString "others"), (Str.ofString "place")] (scopeAt 16) := ⟨rfl, rfl, rfl, by decide +kernel, by decide +kernel⟩
theorem call_way (T : Tops X) : CallOk X 1 (.ref T.d_way.fa) F_way := call_ok (xs := [(Str.ofString "own"), (Str.ofString "others"), (Str.ofString "place")]) 8 T.d_way.ho T.d_way.hdata T.d_way.hcd DL_way (S_way T) (elim3 fun _ _ _ => rfl)
noncomputable def lay_even : Lay := { slots := [(Str.ofString "parts"), (Str.ofString "turn"), (Str.ofString "low"), (Str.ofString "spread"), (Str.ofString "both"), (Str.ofString "head"), (Str.ofString "red"), (Str.ofString "green"), (Str.ofString "blue"), (Str.ofString "due"), (Str.ofString "hue"), (Str.ofString "share"), (Str.ofString "level"), (Str.ofString "told"), (Str.ofString "ahead")], wr := 15, names := scopeNames 19 }
noncomputable def layc_even_1 : Lay := { slots := [(Str.ofString "k"), (Str.ofString "parts"), (Str.ofString "turn")], wr := 1, names := [((Str.ofString ".0"), .local), ((Str.ofString "k"), .local), ((Str.ofString "parts"), .cell), ((Str.ofString "turn"), .cell)] }
theorem CL_even_1 {scope : Scope} (hn : scope.names = [((Str.ofString ".0"), .local), ((Str.ofString "k"), .local), ((Str.ofString "parts"), .free), ((Str.ofString "turn"), .free)]) (hk : scope.kind = .function) : CompLay lay_even layc_even_1 scope [0, 1] := comp_lay (by rw [hn]; decide +kernel) hk
noncomputable def C_even_1 : Den := dComp (sRange1 (fun _ => some (.int (3)))) 1 [0, 1] (uName 0) dYes (dBin fTdivI (dItem (dName 1) (dBin fModI (dBin fSubI (dName 0) (dName 2)) (fun _ => some (.int (3))))) (fun _ => some (.int (4))))
noncomputable def layc_even_2 : Lay := { slots := [(Str.ofString "x")], wr := 1, names := [((Str.ofString ".0"), .local), ((Str.ofString "x"), .local), ((Str.ofString "int"), .globalImplicit)] }
theorem CL_even_2 {scope : Scope} (hn : scope.names = [((Str.ofString ".0"), .local), ((Str.ofString "x"), .local), ((Str.ofString "int"), .globalImplicit)]) (hk : scope.kind = .function) : CompLay lay_even layc_even_2 scope [] := comp_lay (by rw [hn]; decide +kernel) hk
noncomputable def C_even_2 : Den := dComp (sList (dName 13)) 1 [] (uName 0) dYes (dCall fInt (dCons (dBin fAddF (dBin fMulFI (dName 0) (dBin fPowI (fun _ => some (.int (2))) (fun _ => some (.int (20))))) (fun _ => some (.flt 4602678819172646912))) dNil))
noncomputable def layc_even_3 : Lay := { slots := [(Str.ofString "x")], wr := 1, names := [((Str.ofString ".0"), .local), ((Str.ofString "x"), .local)] }
theorem CL_even_3 {scope : Scope} (hn : scope.names = [((Str.ofString ".0"), .local), ((Str.ofString "x"), .local)]) (hk : scope.kind = .function) : CompLay lay_even layc_even_3 scope [] := comp_lay (by rw [hn]; decide +kernel) hk
noncomputable def C_even_3 : Den := dComp (sList (dName 9)) 1 [] (uName 0) dYes (dBin fMulI (dName 0) (dBin fPowI (fun _ => some (.int (2))) (fun _ => some (.int (20)))))
noncomputable def D_even : DenS := (dSeq (dSet 2 (dCall fMin (dCons (dName 0) dNil))) (dSeq (dSet 3 (dBin fSubI (dItem (dName 0) (fun _ => some (.int (0)))) (dName 2))) (dSeq (dSet 4 (dBin fAddI (dItem (dName 0) (fun _ => some (.int (0)))) (dName 2))) (dSeq (dSet 5 (dBin fMulI (fun _ => some (.int (2))) (dBin fModI (dName 1) (fun _ => some (.int (3)))))) (dSeq (dUn [6, 7, 8] C_even_1) (dSeq (dOwn 9 (dCons (dBin fModI (dBin fSubI (dBin fAddI (dBin fMulI (dName 5) (dName 3)) (dItem (dName 0) (fun _ => some (.int (1))))) (dItem (dName 0) (fun _ => some (.int (2))))) (dBin fMulI (fun _ => some (.int (6))) (dName 3))) (dCons (dName 3) dNil))) (dSeq (dIfS (dCmp cEqI (dBin fModI (dName 1) (fun _ => some (.int (2)))) (fun _ => some (.int (0)))) (dSeq (dUn [10, 11, 12] (dCall F_hsv (dCons (dName 6) (dCons (dName 7) (dCons (dName 8) dNil))))) (dSeq (dOwn 13 (dCons (dBin fMulFI (dBin fMulFI (dName 10) (fun _ => some (.int (6)))) (dName 3)) (dCons (dBin fMulFI (dName 11) (dItem (dName 0) (fun _ => some (.int (0))))) (dCons (dBin fMulFI (dName 12) (fun _ => some (.int (4)))) dNil)))) (fun ρ => (dSeq (dApp 9 (dItem (dName 0) (fun _ => some (.int (0))))) dDone) (frz 13 ρ)))) (dSeq (dUn [10, 12, 11] (dCall F_hls (dCons (dName 6) (dCons (dName 7) (dCons (dName 8) dNil))))) (dSeq (dOwn 13 (dCons (dBin fMulFI (dBin fMulFI (dName 10) (fun _ => some (.int (6)))) (dName 3)) (dCons (dBin fMulFI (dName 11) (dCall fMin (dCons (dName 4) (dCons (dBin fSubI (fun _ => some (.int (8))) (dName 4)) dNil)))) (dCons (dBin fMulFI (dName 12) (fun _ => some (.int (8)))) dNil)))) (fun ρ => (dSeq (dApp 9 (dName 4)) dDone) (frz 13 ρ))))) (fun ρ => (dSeq (dIfS (dCmp cNeL C_even_2 C_even_3) (dSeq (dRet (fun _ => some (.str (Str.ofString "-")))) dDone) dDone) (dSeq (dSet 14 (dBin fModI (dBin fSubI (dCall fInt (dCons (dBin fAddF (dBin fMulFI (dBin fMulFI (dName 10) (fun _ => some (.int (6)))) (dBin fPowI (fun _ => some (.int (2))) (fun _ => some (.int (20))))) (fun _ => some (.flt 4602678819172646912))) dNil)) (dBin fMulI (dName 5) (dBin fPowI (fun _ => some (.int (2))) (fun _ => some (.int (20)))))) (dBin fMulI (fun _ => some (.int (6))) (dBin fPowI (fun _ => some (.int (2))) (fun _ => some (.int (20))))))) (dSeq (dRet (dIf (dCmp cEqI (dName 14) (dBin fPowI (fun _ => some (.int (2))) (fun _ => some (.int (20))))) (fun _ => some (.str (Str.ofString "g"))) (dIf (dCmp cEqI (dName 14) (dBin fMulI (fun _ => some (.int (5))) (dBin fPowI (fun _ => some (.int (2))) (fun _ => some (.int (20)))))) (fun _ => some (.str (Str.ofString "b"))) (fun _ => some (.str (Str.ofString "")))))) dDone))) (frz 9 ρ)))))))))
theorem S_even (T : Tops X) : SOk X 1 lay_even (bodyAt 19) D_even := (s_cons (st_assign 2 (by decide) rfl (e_blt (by decide +kernel) T.n_min T.b_min c_min (es_cons (e_name 0 rfl) es_nil))) (s_cons (st_assign 3 (by decide) rfl (e_bin (e_item (e_name 0 rfl) e_int) (e_name 2 rfl) b_subI)) (s_cons (st_assign 4 (by decide) rfl (e_bin (e_item (e_name 0 rfl) e_int) (e_name 2 rfl) b_addI)) (s_cons (st_assign 5 (by decide) rfl (e_bin e_int (e_bin (e_name 1 rfl) e_int b_modI) b_mulI)) (s_cons (st_unpack (.cons (by decide) rfl (.cons (by decide) rfl (.cons (by decide) rfl .nil))) (e_comp (CL_even_1 (by rfl) (by rfl)) (src_range1 e_int (by decide +kernel) T.n_range T.b_range) (tg_name 0 (by decide) rfl) (upd_name 0) c_nil (e_bin (e_item (e_name 1 rfl) (e_bin (e_bin (e_name 0 rfl) (e_name 2 rfl) b_subI) e_int b_modI)) e_int b_tdivI))) (s_cons (st_own 9 (by decide) rfl (es_cons (e_bin (e_bin (e_bin (e_bin (e_name 5 rfl) (e_name 3 rfl) b_mulI) (e_item (e_name 0 rfl) e_int) b_addI) (e_item (e_name 0 rfl) e_int) b_subI) (e_bin e_int (e_name 3 rfl) b_mulI) b_modI) (es_cons (e_name 3 rfl) es_nil))) (s_cons (st_if (t_cmp (e_bin (e_name 1 rfl) e_int b_modI) e_int c_eqI) (s_cons (st_unpack (.cons (by decide) rfl (.cons (by decide) rfl (.cons (by decide) rfl .nil))) (e_call (by decide +kernel) T.d_hsv.hv T.d_hsv.ho T.d_hsv.hdata ((call_hsv T).up (by decide)) (es_cons (e_name 6 rfl) (es_cons (e_name 7 rfl) (es_cons (e_name 8 rfl) es_nil))))) (s_cons (st_own 13 (by decide) rfl (es_cons (e_bin (e_bin (e_name 10 rfl) e_int b_mulFI) (e_name 3 rfl) b_mulFI) (es_cons (e_bin (e_name 11 rfl) (e_item (e_name 0 rfl) e_int) b_mulFI) (es_cons (e_bin (e_name 12 rfl) e_int b_mulFI) es_nil)))) (s_freeze 13 rfl (s_cons (st_app 9 rfl (e_item (e_name 0 rfl) e_int)) s_nil)))) (s_cons (st_unpack (.cons (by decide) rfl (.cons (by decide) rfl (.cons (by decide) rfl .nil))) (e_call (by decide +kernel) T.d_hls.hv T.d_hls.ho T.d_hls.hdata ((call_hls T).up (by decide)) (es_cons (e_name 6 rfl) (es_cons (e_name 7 rfl) (es_cons (e_name 8 rfl) es_nil))))) (s_cons (st_own 13 (by decide) rfl (es_cons (e_bin (e_bin (e_name 10 rfl) e_int b_mulFI) (e_name 3 rfl) b_mulFI) (es_cons (e_bin (e_name 11 rfl) (e_blt (by decide +kernel) T.n_min T.b_min c_min (es_cons (e_name 4 rfl) (es_cons (e_bin e_int (e_name 4 rfl) b_subI) es_nil))) b_mulFI) (es_cons (e_bin (e_name 12 rfl) e_int b_mulFI) es_nil)))) (s_freeze 13 rfl (s_cons (st_app 9 rfl (e_name 4 rfl)) s_nil))))) (s_freeze 9 rfl (s_cons (st_if (t_cmp (e_comp (CL_even_2 (by rfl) (by rfl)) (src_list (e_name 13 rfl)) (tg_name 0 (by decide) rfl) (upd_name 0) c_nil (e_typ (by decide +kernel) T.n_int T.b_int c_int (es_cons (e_bin (e_bin (e_name 0 rfl) (e_bin e_int e_int b_powI) b_mulFI) e_flt b_addF) es_nil))) (e_comp (CL_even_3 (by rfl) (by rfl)) (src_list (e_name 9 rfl)) (tg_name 0 (by decide) rfl) (upd_name 0) c_nil (e_bin (e_name 0 rfl) (e_bin e_int e_int b_powI) b_mulI)) c_neL) (s_cons (st_ret e_str) s_nil) s_nil) (s_cons (st_assign 14 (by decide) rfl (e_bin (e_bin (e_typ (by decide +kernel) T.n_int T.b_int c_int (es_cons (e_bin (e_bin (e_bin (e_name 10 rfl) e_int b_mulFI) (e_bin e_int e_int b_powI) b_mulFI) e_flt b_addF) es_nil)) (e_bin (e_name 5 rfl) (e_bin e_int e_int b_powI) b_mulI) b_subI) (e_bin e_int (e_bin e_int e_int b_powI) b_mulI) b_modI)) (s_cons (st_ret (e_ife (t_cmp (e_name 14 rfl) (e_bin e_int e_int b_powI) c_eqI) e_str (e_ife (t_cmp (e_name 14 rfl) (e_bin e_int (e_bin e_int e_int b_powI) b_mulI) c_eqI) e_str e_str))) s_nil)))))))))))
noncomputable def F_even : List PV → Option PV := callDef 13 2 D_even
theorem DL_even : DefLay lay_even [(Str.ofString "parts"), (Str.ofString "turn")] (scopeAt 19) := ⟨rfl, rfl, rfl, by decide +kernel, by decide +kernel⟩
theorem call_even (T : Tops X) : CallOk X 2 (.ref T.d_even.fa) F_even := call_ok (xs := [(Str.ofString "parts"), (Str.ofString "turn")]) 13 T.d_even.ho T.d_even.hdata T.d_even.hcd DL_even (S_even T) (elim2 fun _ _ => rfl)
noncomputable def lay_next : Lay := { slots := [(Str.ofString "heard"), (Str.ofString "place"), (Str.ofString "parts"), (Str.ofString "step"), (Str.ofString "last"), (Str.ofString "sign"), (Str.ofString "shown")], wr := 7, names := scopeNames 20 }
noncomputable def layc_next_1 : Lay := { slots := [(Str.ofString "k"), (Str.ofString "parts"), (Str.ofString "sign")], wr := 1, names := [((Str.ofString ".0"), .local), ((Str.ofString "k"), .local), ((Str.ofString "parts"), .cell), ((Str.ofString "sign"), .cell)] }
theorem CL_next_1 {scope : Scope} (hn : scope.names = [((Str.ofString ".0"), .local), ((Str.ofString "k"), .local), ((Str.ofString "parts"), .free), ((Str.ofString "sign"), .free)]) (hk : scope.kind = .function) : CompLay lay_next layc_next_1 scope [2, 5] := comp_lay (by rw [hn]; decide +kernel) hk
noncomputable def C_next_1 : Den := dComp (sRange1 (fun _ => some (.int (3)))) 1 [2, 5] (uName 0) dYes (dBin fAddI (dItem (dName 1) (dName 0)) (dIf (dCmp cEqS (dName 2) (dItem (fun _ => some (.str (Str.ofString "rgb"))) (dName 0))) (fun _ => some (.int (1))) (fun _ => some (.int (0)))))
noncomputable def B_next_1 : DenS := (dSeq (dSet 4 (dBin fModI (dBin fAddI (dName 1) (dName 3)) (dCall fLen (dCons (dName 0) dNil)))) (dSeq (dSet 5 (dItem (dBin fAddS (dMeth isS fLstrip (dItem (dName 0) (dName 4)) (dCons (fun _ => some (.str (Str.ofString "."))) dNil)) (fun _ => some (.str (Str.ofString "r")))) (fun _ => some (.int (0))))) (dSeq (dSet 2 C_next_1) (dSeq (dSet 6 (dCall F_even (dCons (dName 2) (dCons (dName 1) dNil)))) (dSeq (dIfS (dCmp cNeS (dName 6) (fun _ => some (.str (Str.ofString "")))) (dSeq (dRet (dTup (dCons (dName 6) (dCons (dName 4) dNil)))) dDone) dDone) dDone)))))
theorem SB_next_1 (T : Tops X) : SOk X 2 lay_next (subB ((bodyAt 20).getD 1 dStmt)) B_next_1 := (s_cons (st_assign 4 (by decide) rfl (e_bin (e_bin (e_name 1 rfl) (e_name 3 rfl) b_addI) (e_blt (by decide +kernel) T.n_len T.b_len c_len (es_cons (e_name 0 rfl) es_nil)) b_modI)) (s_cons (st_assign 5 (by decide) rfl (e_item (e_bin (e_meth (e_item (e_name 0 rfl) (e_name 4 rfl)) g_lstrip c_lstrip (es_cons e_str es_nil)) e_str b_addS) e_int)) (s_cons (st_assign 2 (by decide) rfl (e_comp (CL_next_1 (by rfl) (by rfl)) (src_range1 e_int (by decide +kernel) T.n_range T.b_range) (tg_name 0 (by decide) rfl) (upd_name 0) c_nil (e_bin (e_item (e_name 1 rfl) (e_name 0 rfl)) (e_ife (t_cmp (e_name 2 rfl) (e_item e_str (e_name 0 rfl)) c_eqS) e_int e_int) b_addI)) (by intro env h1 h2; exact swaps_is h1 h2 (by decide +kernel))) (s_cons (st_assign 6 (by decide) rfl (e_call (by decide +kernel) T.d_even.hv T.d_even.ho T.d_even.hdata ((call_even T).up (by decide)) (es_cons (e_name 2 rfl) (es_cons (e_name 1 rfl) es_nil)))) (s_cons (st_if (t_cmp (e_name 6 rfl) e_str c_neS) (s_cons (st_ret (e_tup (es_cons (e_name 6 rfl) (es_cons (e_name 4 rfl) es_nil)))) s_nil) s_nil) s_nil)))))
noncomputable def D_next : DenS := (dSeq (dOwn 2 (dCons (fun _ => some (.int (0))) (dCons (fun _ => some (.int (0))) (dCons (fun _ => some (.int (0))) dNil)))) (fun ρ => (dSeq (dFor (sRange1 (dCall fLen (dCons (dName 0) dNil))) (uName 3) B_next_1) (dSeq (dRet (dTup (dCons (fun _ => some (.str (Str.ofString "-"))) (dCons (dName 1) dNil)))) dDone)) (frz 2 ρ)))
theorem S_next (T : Tops X) : SOk X 2 lay_next (bodyAt 20) D_next := (s_cons (st_own 2 (by decide) rfl (es_cons e_int (es_cons e_int (es_cons e_int es_nil)))) (s_freeze 2 rfl (s_cons (st_for  (src_range1 (e_blt (by decide +kernel) T.n_len T.b_len c_len (es_cons (e_name 0 rfl) es_nil)) (by decide +kernel) T.n_range T.b_range) (tg_name 3 (by decide) rfl) (SB_next_1 T)) (s_cons (st_ret (e_tup (es_cons e_str (es_cons (e_name 1 rfl) es_nil)))) s_nil))))
noncomputable def F_next : List PV → Option PV := callDef 5 2 D_next
theorem DL_next : DefLay lay_next [(Str.ofString "heard"), (Str.ofString "place")] (scopeAt 20) := ⟨rfl, rfl, rfl, by decide +kernel, by decide +kernel⟩
theorem call_next (T : Tops X) : CallOk X 3 (.ref T.d_next.fa) F_next := call_ok (xs := [(Str.ofString "heard"), (Str.ofString "place")]) 5 T.d_next.ho T.d_next.hdata T.d_next.hcd DL_next (S_next T) (elim2 fun _ _ => rfl)
end
end Mine
end

section
open PySem PySem.W PyProof.Rows PySem.Builtin
set_option Elab.async false
set_option autoImplicit false
set_option linter.unusedVariables false
set_option maxRecDepth 100000
namespace Mine
section
variable {X : Top0} {n : Nat} {lay : Lay}
noncomputable def lay_esc : Lay := { slots := [Str.ofString "addr", Str.ofString "pos", Str.ofString "escape", Str.ofString "ch"], wr := 4, names := scopeNames 5 }
theorem eq_beq1 (c d : Nat) : ((⟨#[c]⟩ : Str) == ⟨#[d]⟩) = Nat.beq c d := by
  cases h : Nat.beq c d with
  | true => have := Nat.eq_of_beq_eq_true h; subst this; simp
  | false =>
    have := Nat.ne_of_beq_eq_false h
    simp [this]
theorem src_esc (T : Tops X) {es : List Expr} {k : Nat} {tpos p pos : Pos} {e : Expr} {d : Den} (hn5 : 5 ≤ n) (hx : lay.names.lookup (Str.ofString "_iter_escaped_chars") = some .globalImplicit) (h : EOk X n lay e d)
    (hs : ∀ env, starEach [e] env = [(false, eval e env)] := by intro _; rfl) : SrcOkG X n lay (.Tuple es k tpos) (.Call (.Name (Str.ofString "_iter_escaped_chars") p) [e] [] pos) (sGen d) := by
  refine src_gen (layE := lay_esc) (dE := dTrue (dName 2)) (dZ := dTrue (dName 2)) (dB := dCmp cEqS (dName 3) (fun _ => some (.str (Str.ofString "\\")))) (d1 := dTup (dCons (dName 1) (dCons (dBin fAddS (fun _ => some (.str (Str.ofString "\\"))) (dName 3)) dNil)))
    (d2 := dTup (dCons (dName 1) (dCons (dName 3) dNil))) (d3 := dTup (dCons (dName 1) (dCons (fun _ => some (.str (Str.ofString "\\"))) dNil))) (DF := dSet 2 (fun _ => some (.bool false))) (DT := dSet 2 (fun _ => some (.bool true))) (upd := uTup [1, 3]) hn5 hx T.d_esc.hv T.d_esc.ho T.d_esc.hdata T.d_esc.hcd (fun v => rfl) (rfl : bodyAt 5 = escFun _ _ _ _ _ _ _ _ _ _ _ _ _ _ _ _ _ _ _ _ _ _ _ _ _ _ _ _ _ _ _ _) (fun x => ?_) rfl rfl rfl rfl (by decide +kernel) (by decide +kernel) (by decide +kernel) h hs
  refine { ht := tg_tup (.cons (by decide) rfl (.cons (by decide) rfl .nil)), hE := t_name (e_name 2 rfl), hB := t_cmp (e_name 3 rfl) e_str c_eqS, h1 := e_tup (es_cons (e_name 1 rfl) (es_cons (e_bin e_str (e_name 3 rfl) b_addS) es_nil)), h2 := e_tup (es_cons (e_name 1 rfl) (es_cons (e_name 3 rfl) es_nil)), hF := st_assign 2 (by decide) rfl e_bool, hT := st_assign 2 (by decide) rfl e_bool, uE := fun _ _ _ _ _ => rfl, vE := fun _ _ _ => rfl, vB := fun pk e c => ?_, v1 := fun _ _ _ => rfl, v2 := fun _ _ _ => rfl, vF := fun _ _ _ => rfl, vT := fun _ _ _ => rfl, hZ := t_name (e_name 2 rfl), h3 := e_tup (es_cons (e_name 1 rfl) (es_cons e_str es_nil)), vZ := fun _ _ _ => rfl, v3 := fun _ _ _ => rfl, s0 := rfl, s1 := rfl, s2 := rfl, w4 := rfl, en := (by decide +kernel), eg := T.n_enumerate, eb := T.b_enumerate }
  show some ((⟨#[c]⟩ : Str) == Str.ofString "\\") = _
  have : Str.ofString "\\" = ⟨#[92]⟩ := by decide +kernel
  rw [this, eq_beq1]
end
end Mine
end

section
open PySem PySem.W PyProof.Rows PySem.Builtin
set_option Elab.async false
set_option autoImplicit false
set_option linter.unusedVariables false
set_option maxRecDepth 100000
namespace Mine
section
variable {X : Top0}
noncomputable def lay_strip : Lay := { slots := [(Str.ofString "addr"), (Str.ofString "start"), (Str.ofString "open_pos"), (Str.ofString "result"), (Str.ofString "pos"), (Str.ofString "ch")], wr := 6, names := scopeNames 6 }
noncomputable def B_strip_1 : DenS := (dSeq (dIfS (dCmp cEqS (dName 5) (fun _ => some (.str (Str.ofString "\"")))) (dSeq (dIfS (dCmp cIsNone (dName 2) (fun _ => some .none)) (dSeq (dSet 2 (dName 4)) dDone) (dSeq (dIfS (dCmp cNeI (dName 1) (dName 2)) (dSeq (dApp 3 (dSlice (dName 0) (dPint (dName 1)) (dPint (dName 2)) dPno)) dDone) dDone) (dSeq (dSet 1 (dBin fAddI (dName 4) (fun _ => some (.int (1))))) (dSeq (dSet 2 (fun _ => some .none)) dDone)))) dDone) dDone) dDone)
theorem SB_strip_1 (T : Tops X) : SOk X 5 lay_strip (subB ((bodyAt 6).getD 4 dStmt)) B_strip_1 := (s_cons (st_if (t_cmp (e_name 5 rfl) e_str c_eqS) (s_cons (st_if (t_cmp (e_name 2 rfl) e_none c_isNone) (s_cons (st_assign 2 (by decide) rfl (e_name 4 rfl)) s_nil) (s_cons (st_if (t_cmp (e_name 1 rfl) (e_name 2 rfl) c_neI) (s_cons (st_app 3 rfl (e_slice (e_name 0 rfl) (p_int (e_name 1 rfl)) (p_int (e_name 2 rfl)) p_no)) s_nil) s_nil) (s_cons (st_assign 1 (by decide) rfl (e_bin (e_name 4 rfl) e_int b_addI)) (s_cons (st_assign 2 (by decide) rfl e_none) s_nil)))) s_nil) s_nil) s_nil)
noncomputable def D_strip : DenS := (dSeq (dIfS (dCmp cNotInS (fun _ => some (.str (Str.ofString "\""))) (dName 0)) (dSeq (dRet (dName 0)) dDone) dDone) (dSeq (dSet 1 (fun _ => some (.int (0)))) (dSeq (dSet 2 (fun _ => some .none)) (dSeq (dOwn 3 dNil) (dSeq (dFor (sGen (dName 0)) (uTup [4, 5]) B_strip_1) (dSeq (dIfS (dCmp cLtI (dName 1) (dCall fLen (dCons (dName 0) dNil))) (dSeq (dApp 3 (dSlice (dName 0) (dPint (dName 1)) dPno dPno)) dDone) dDone) (fun ρ => (dSeq (dRet (dMeth isS fJoin (fun _ => some (.str (Str.ofString ""))) (dCons (dName 3) dNil))) dDone) (frz 3 ρ))))))))
theorem S_strip (T : Tops X) : SOk X 5 lay_strip (bodyAt 6) D_strip := (s_cons (st_if (t_cmp e_str (e_name 0 rfl) c_notInS) (s_cons (st_ret (e_name 0 rfl)) s_nil) s_nil) (s_cons (st_assign 1 (by decide) rfl e_int) (s_cons (st_assign 2 (by decide) rfl e_none) (s_cons (st_own 3 (by decide) rfl es_nil) (s_cons (st_forG (by decide)  (src_esc T (by decide) (by decide +kernel) (e_name 0 rfl)) (tg_tup (.cons (by decide) rfl (.cons (by decide) rfl .nil))) (SB_strip_1 T)) (s_cons (st_if (t_cmp (e_name 1 rfl) (e_blt (by decide +kernel) T.n_len T.b_len c_len (es_cons (e_name 0 rfl) es_nil)) c_ltI) (s_cons (st_app 3 rfl (e_slice (e_name 0 rfl) (p_int (e_name 1 rfl)) p_no p_no)) s_nil) s_nil) (s_freeze 3 rfl (s_cons (st_ret (e_meth e_str g_join c_join (es_cons (e_name 3 rfl) es_nil))) s_nil))))))))
noncomputable def F_strip : List PV → Option PV := callDef 5 1 D_strip
theorem DL_strip : DefLay lay_strip [(Str.ofString "addr")] (scopeAt 6) := ⟨rfl, rfl, rfl, by decide +kernel, by decide +kernel⟩
theorem call_strip (T : Tops X) : CallOk X 6 (.ref T.d_strip.fa) F_strip := call_ok (xs := [(Str.ofString "addr")]) 5 T.d_strip.ho T.d_strip.hdata T.d_strip.hcd DL_strip (S_strip T) (elim1 fun _ => rfl)
noncomputable def lay_check : Lay := { slots := [(Str.ofString "addr"), (Str.ofString "opens"), (Str.ofString "pos"), (Str.ofString "ch")], wr := 4, names := scopeNames 7 }
noncomputable def B_check_1 : DenS := (dSeq (dIfS (dCmp cEqS (dName 3) (fun _ => some (.str (Str.ofString "(")))) (dSeq (dSet 1 (dBin fAddI (dName 1) (fun _ => some (.int (1))))) dDone) (dSeq (dIfS (dCmp cEqS (dName 3) (fun _ => some (.str (Str.ofString ")")))) (dSeq (dSet 1 (dBin fSubI (dName 1) (fun _ => some (.int (1))))) (dSeq (dIfS (dCmp cLtI (dName 1) (fun _ => some (.int (0)))) (dSeq (dRet (fun _ => some (.bool false))) dDone) dDone) dDone)) dDone) dDone)) dDone)
theorem SB_check_1 (T : Tops X) : SOk X 6 lay_check (subB ((bodyAt 7).getD 2 dStmt)) B_check_1 := (s_cons (st_if (t_cmp (e_name 3 rfl) e_str c_eqS) (s_cons (st_aug 1 (by decide) rfl e_int i_addI) s_nil) (s_cons (st_if (t_cmp (e_name 3 rfl) e_str c_eqS) (s_cons (st_aug 1 (by decide) rfl e_int i_subI) (s_cons (st_if (t_cmp (e_name 1 rfl) e_int c_ltI) (s_cons (st_ret e_bool) s_nil) s_nil) s_nil)) s_nil) s_nil)) s_nil)
noncomputable def D_check : DenS := (dSeq (dSet 0 (dCall F_strip (dCons (dName 0) dNil))) (dSeq (dSet 1 (fun _ => some (.int (0)))) (dSeq (dFor (sGen (dName 0)) (uTup [2, 3]) B_check_1) (dSeq (dRet (dB (dCmp cEqI (dName 1) (fun _ => some (.int (0)))))) dDone))))
theorem S_check (T : Tops X) : SOk X 6 lay_check (bodyAt 7) D_check := (s_cons (st_assign 0 (by decide) rfl (e_call (by decide +kernel) T.d_strip.hv T.d_strip.ho T.d_strip.hdata ((call_strip T).up (by decide)) (es_cons (e_name 0 rfl) es_nil))) (s_cons (st_assign 1 (by decide) rfl e_int) (s_cons (st_forG (by decide)  (src_esc T (by decide) (by decide +kernel) (e_name 0 rfl)) (tg_tup (.cons (by decide) rfl (.cons (by decide) rfl .nil))) (SB_check_1 T)) (s_cons (st_ret (e_cmp (e_name 1 rfl) e_int c_eqI)) s_nil))))
noncomputable def F_check : List PV → Option PV := callDef 3 1 D_check
theorem DL_check : DefLay lay_check [(Str.ofString "addr")] (scopeAt 7) := ⟨rfl, rfl, rfl, by decide +kernel, by decide +kernel⟩
theorem call_check (T : Tops X) : CallOk X 7 (.ref T.d_check.fa) F_check := call_ok (xs := [(Str.ofString "addr")]) 3 T.d_check.ho T.d_check.hdata T.d_check.hcd DL_check (S_check T) (elim1 fun _ => rfl)
end
end Mine
end

section
open PySem PySem.W PyProof.Rows PySem.Builtin
set_option Elab.async false
set_option autoImplicit false
set_option linter.unusedVariables false
set_option maxRecDepth 100000
set_option maxHeartbeats 0
namespace Mine
section
variable {X : Top0}
noncomputable def lay_ties : Lay := { slots := [(Str.ofString "word"), (Str.ofString "shown"), (Str.ofString "hides"), (Str.ofString "ties"), (Str.ofString "first"), (Str.ofString "head"), (Str.ofString "text"), (Str.ofString "level"), (Str.ofString "low"), (Str.ofString "ends"), (Str.ofString "last"), (Str.ofString "sign"), (Str.ofString "told")], wr := 13, names := scopeNames 15 }
noncomputable def B_ties_1 : DenS := (dSeq (dSet 11 (dItem (dName 0) (dName 10))) (dSeq (dSet 6 (dBin fAddS (dName 6) (dIf (dCmp cEqS (dName 11) (fun _ => some (.str (Str.ofString "r")))) (fun _ => some (.str (Str.ofString "("))) (dIf (dCmp cEqS (dName 11) (dName 1)) (fun _ => some (.str (Str.ofString ")"))) (dItem (dName 2) (dName 10)))))) (dSeq (dSet 7 (dBin fAddI (dName 7) (dIf (dCmp cEqS (dName 11) (fun _ => some (.str (Str.ofString "r")))) (fun _ => some (.int (1))) (dIf (dCmp cEqS (dName 11) (dName 1)) (dNeg (fun _ => some (.int (1)))) (fun _ => some (.int (0))))))) (dSeq (dSet 8 (dCall fMin (dCons (dName 8) (dCons (dName 7) dNil)))) (dSeq (dSet 12 (dCall F_check (dCons (dName 6) dNil))) (dSeq (dIfS (dCmp cIsNotB (dName 12) (dB (dAnd (dCmp cEqI (dName 7) (fun _ => some (.int (0)))) (dCmp cEqI (dName 8) (fun _ => some (.int (0))))))) (dSeq (dRet (dList dNil)) dDone) dDone) (dSeq (dIfS (dTrue (dName 12)) (dSeq (dApp 9 (dName 10)) dDone) dDone) dDone)))))))
theorem SB_ties_1 (T : Tops X) : SOk X 7 lay_ties (subB ((subB ((subB ((bodyAt 15).getD 1 dStmt)).getD 0 dStmt)).getD 4 dStmt)) B_ties_1 := (s_cons (st_assign 11 (by decide) rfl (e_item (e_name 0 rfl) (e_name 10 rfl))) (s_cons (st_aug 6 (by decide) rfl (e_ife (t_cmp (e_name 11 rfl) e_str c_eqS) e_str (e_ife (t_cmp (e_name 11 rfl) (e_name 1 rfl) c_eqS) e_str (e_item (e_name 2 rfl) (e_name 10 rfl)))) i_addS) (s_cons (st_aug 7 (by decide) rfl (e_ife (t_cmp (e_name 11 rfl) e_str c_eqS) e_int (e_ife (t_cmp (e_name 11 rfl) (e_name 1 rfl) c_eqS) (e_neg e_int) e_int)) i_addI) (s_cons (st_assign 8 (by decide) rfl (e_blt (by decide +kernel) T.n_min T.b_min c_min (es_cons (e_name 8 rfl) (es_cons (e_name 7 rfl) es_nil)))) (s_cons (st_assign 12 (by decide) rfl (e_call (by decide +kernel) T.d_check.hv T.d_check.ho T.d_check.hdata ((call_check T).up (by decide)) (es_cons (e_name 6 rfl) es_nil))) (s_cons (st_if (t_cmp (e_name 12 rfl) (e_and (e_cmp (e_name 7 rfl) e_int c_eqI) (e_cmp (e_name 8 rfl) e_int c_eqI)) c_isNotB) (s_cons (st_ret (e_list es_nil)) s_nil) s_nil) (s_cons (st_if (t_name (e_name 12 rfl)) (s_cons (st_app 9 rfl (e_name 10 rfl)) s_nil) s_nil) s_nil)))))))
noncomputable def B_ties_2 : DenS := (dSeq (dIfS (dCmp cEqS (dName 5) (fun _ => some (.str (Str.ofString "r")))) (dSeq (dSet 6 (fun _ => some (.str (Str.ofString "(")))) (dSeq (dSet 7 (fun _ => some (.int (1)))) (dSeq (dSet 8 (fun _ => some (.int (1)))) (dSeq (dOwn 9 dNil) (dSeq (dFor (sRange2 (dBin fAddI (dName 4) (fun _ => some (.int (1)))) (dCall fLen (dCons (dName 0) dNil))) (uName 10) B_ties_1) (fun ρ => (dSeq (dApp 3 (dTup (dCons (dName 4) (dCons (dItem (dName 9) (fun _ => some (.int (0)))) dNil)))) dDone) (frz 9 ρ))))))) dDone) dDone)
theorem SB_ties_2 (T : Tops X) : SOk X 7 lay_ties (subB ((bodyAt 15).getD 1 dStmt)) B_ties_2 := (s_cons (st_if (t_cmp (e_name 5 rfl) e_str c_eqS) (s_cons (st_assign 6 (by decide) rfl e_str) (s_cons (st_assign 7 (by decide) rfl e_int) (s_cons (st_assign 8 (by decide) rfl e_int) (s_cons (st_own 9 (by decide) rfl es_nil) (s_cons (st_for  (src_range2 (e_bin (e_name 4 rfl) e_int b_addI) (e_blt (by decide +kernel) T.n_len T.b_len c_len (es_cons (e_name 0 rfl) es_nil)) (by decide +kernel) T.n_range T.b_range) (tg_name 10 (by decide) rfl) (SB_ties_1 T)) (s_freeze 9 rfl (s_cons (st_app 3 rfl (e_tup (es_cons (e_name 4 rfl) (es_cons (e_item (e_name 9 rfl) e_int) es_nil)))) s_nil))))))) s_nil) s_nil)
noncomputable def D_ties : DenS := (dSeq (dOwn 3 dNil) (dSeq (dFor (sEnum (dName 0)) (uTup [4, 5]) B_ties_2) (fun ρ => (dSeq (dRet (dName 3)) dDone) (frz 3 ρ))))
theorem S_ties (T : Tops X) : SOk X 7 lay_ties (bodyAt 15) D_ties := (s_cons (st_own 3 (by decide) rfl es_nil) (s_cons (st_for  (src_enum (e_name 0 rfl) (by decide +kernel) T.n_enumerate T.b_enumerate) (tg_tup (.cons (by decide) rfl (.cons (by decide) rfl .nil))) (SB_ties_2 T)) (s_freeze 3 rfl (s_cons (st_ret (e_name 3 rfl)) s_nil))))
noncomputable def F_ties : List PV → Option PV := callDef 10 3 D_ties
theorem DL_ties : DefLay lay_ties [(Str.ofString "word"), (Str.ofString "shown"), (Str.ofString "hides")] (scopeAt 15) := ⟨rfl, rfl, rfl, by decide +kernel, by decide +kernel⟩
theorem call_ties (T : Tops X) : CallOk X 8 (.ref T.d_ties.fa) F_ties := call_ok (xs := [(Str.ofString "word"), (Str.ofString "shown"), (Str.ofString "hides")]) 10 T.d_ties.ho T.d_ties.hdata T.d_ties.hcd DL_ties (S_ties T) (elim3 fun _ _ _ => rfl)
noncomputable def lay_law : Lay := { slots := [(Str.ofString "script"), (Str.ofString "size"), (Str.ofString "plain"), (Str.ofString "numbers"), (Str.ofString "word"), (Str.ofString "kinds"), (Str.ofString "hides"), (Str.ofString "sign"), (Str.ofString "ties"), (Str.ofString "ways"), (Str.ofString "place"), (Str.ofString "last"), (Str.ofString "rows"), (Str.ofString "step"), (Str.ofString "ends"), (Str.ofString "sent"), (Str.ofString "heard"), (Str.ofString "shown"), (Str.ofString "new")], wr := 19, names := scopeNames 21 }
noncomputable def layc_law_1 : Lay := { slots := [(Str.ofString "k"), (Str.ofString "plain"), (Str.ofString "script"), (Str.ofString "size")], wr := 1, names := [((Str.ofString ".0"), .local), ((Str.ofString "k"), .local), ((Str.ofString "sum"), .globalImplicit), ((Str.ofString "plain"), .cell), ((Str.ofString "script"), .cell), ((Str.ofString "size"), .cell)] }
theorem CL_law_1 {scope : Scope} (hn : scope.names = [((Str.ofString ".0"), .local), ((Str.ofString "k"), .local), ((Str.ofString "sum"), .globalImplicit), ((Str.ofString "plain"), .free), ((Str.ofString "script"), .free), ((Str.ofString "size"), .free)]) (hk : scope.kind = .function) : CompLay lay_law layc_law_1 scope [2, 0, 1] := comp_lay (by rw [hn]; decide +kernel) hk
noncomputable def layc_law_2 : Lay := { slots := [(Str.ofString "x")], wr := 1, names := [((Str.ofString ".0"), .local), ((Str.ofString "x"), .local)] }
theorem CL_law_2 {scope : Scope} (hn : scope.names = [((Str.ofString ".0"), .local), ((Str.ofString "x"), .local)]) (hk : scope.kind = .function) : CompLay layc_law_1 layc_law_2 scope [] := comp_lay (by rw [hn]; decide +kernel) hk
noncomputable def C_law_2 : Den := dComp (sList (dSlice (dName 2) (dPint (dName 0)) dPno (dPint (dBin fSubI (dName 3) (fun _ => some (.int (1))))))) 1 [] (uName 0) dYes (dBin fModI (dName 0) (dBin fPowI (fun _ => some (.int (10))) (fun _ => some (.int (6)))))
noncomputable def C_law_1 : Den := dComp (sRange1 (dBin fSubI (dName 1) (fun _ => some (.int (1))))) 1 [2, 0, 1] (uName 0) dYes (dBin fAddI (dItem (dName 1) (dName 0)) (dCall fSum (dCons C_law_2 dNil)))
noncomputable def layc_law_3 : Lay := { slots := [(Str.ofString "number"), (Str.ofString "kinds")], wr := 1, names := [((Str.ofString ".0"), .local), ((Str.ofString "number"), .local), ((Str.ofString "kinds"), .cell)] }
theorem CL_law_3 {scope : Scope} (hn : scope.names = [((Str.ofString ".0"), .local), ((Str.ofString "number"), .local), ((Str.ofString "kinds"), .free)]) (hk : scope.kind = .function) : CompLay lay_law layc_law_3 scope [5] := comp_lay (by rw [hn]; decide +kernel) hk
noncomputable def C_law_3 : Den := dComp (sList (dName 3)) 1 [5] (uName 0) dYes (dItem (dName 1) (dBin fModI (dBin fDivI (dName 0) (fun _ => some (.int (6)))) (fun _ => some (.int (7)))))
noncomputable def layc_law_4 : Lay := { slots := [(Str.ofString "sign"), (Str.ofString "hides"), (Str.ofString "word")], wr := 1, names := [((Str.ofString ".0"), .local), ((Str.ofString "sign"), .local), ((Str.ofString "_law_ties"), .globalImplicit), ((Str.ofString "hides"), .cell), ((Str.ofString "word"), .cell)] }
theorem CL_law_4 {scope : Scope} (hn : scope.names = [((Str.ofString ".0"), .local), ((Str.ofString "sign"), .local), ((Str.ofString "_law_ties"), .globalImplicit), ((Str.ofString "hides"), .free), ((Str.ofString "word"), .free)]) (hk : scope.kind = .function) : CompLay lay_law layc_law_4 scope [6, 4] := comp_lay (by rw [hn]; decide +kernel) hk
noncomputable def C_law_4 : Den := dComp (sStr (fun _ => some (.str (Str.ofString "gb")))) 1 [6, 4] (uName 0) dYes (dCall F_ties (dCons (dName 2) (dCons (dName 0) (dCons (dName 1) dNil))))
noncomputable def layc_law_5 : Lay := { slots := [(Str.ofString "rank"), (Str.ofString "first"), (Str.ofString "last"), (Str.ofString "place")], wr := 3, names := [((Str.ofString ".0"), .local), ((Str.ofString "rank"), .local), ((Str.ofString "first"), .local), ((Str.ofString "last"), .local), ((Str.ofString "place"), .cell)] }
theorem CL_law_5 {scope : Scope} (hn : scope.names = [((Str.ofString ".0"), .local), ((Str.ofString "rank"), .local), ((Str.ofString "first"), .local), ((Str.ofString "last"), .local), ((Str.ofString "place"), .free)]) (hk : scope.kind = .function) : CompLay lay_law layc_law_5 scope [10] := comp_lay (by rw [hn]; decide +kernel) hk
noncomputable def C_law_5 : Den := dComp2 (sList (dName 8)) 3 [10] (uName 0) dYes (dInner (sList (dName 0)) (uTup [1, 2]) (dCmp cEqI (dName 1) (dName 3)) (dOne (dName 2)))
noncomputable def B_law_1 : DenS := (dSeq (dIfS (dCmp cEqS (dName 7) (fun _ => some (.str (Str.ofString "r")))) (dSeq (dApp 9 (dCall fMin (dCons C_law_5 dNil))) dDone) (dSeq (dApp 9 (dCall F_way (dCons (dItem (dName 8) (dMeth isS fIdxS (fun _ => some (.str (Str.ofString "gb"))) (dCons (dName 7) dNil))) (dCons (dItem (dName 8) (dMeth isS fIdxS (fun _ => some (.str (Str.ofString "bg"))) (dCons (dName 7) dNil))) (dCons (dName 10) dNil))))) dDone)) dDone)
theorem SB_law_1 (T : Tops X) : SOk X 8 lay_law (subB ((bodyAt 21).getD 9 dStmt)) B_law_1 := (s_cons (st_if (t_cmp (e_name 7 rfl) e_str c_eqS) (s_cons (st_app 9 rfl (e_blt (by decide +kernel) T.n_min T.b_min c_min (es_cons (e_comp2 (CL_law_5 (by rfl) (by rfl)) (src_list (e_name 8 rfl)) (tg_name 0 (by decide) rfl) (upd_name 0) c_nil (src_list (e_name 0 rfl)) (tg_tup (.cons (by decide) rfl (.cons (by decide) rfl .nil))) (upd_tup [1, 2]) (c_one (t_cmp (e_name 1 rfl) (e_name 3 rfl) c_eqI)) (e_name 2 rfl)) es_nil))) s_nil) (s_cons (st_app 9 rfl (e_call (by decide +kernel) T.d_way.hv T.d_way.ho T.d_way.hdata ((call_way T).up (by decide)) (es_cons (e_item (e_name 8 rfl) (e_meth e_str g_idxS c_idxS (es_cons (e_name 7 rfl) es_nil))) (es_cons (e_item (e_name 8 rfl) (e_meth e_str g_idxS c_idxS (es_cons (e_name 7 rfl) es_nil))) (es_cons (e_name 10 rfl) es_nil))))) s_nil)) s_nil)
noncomputable def layc_law_6 : Lay := { slots := [(Str.ofString "k"), (Str.ofString "numbers"), (Str.ofString "step")], wr := 1, names := [((Str.ofString ".0"), .local), ((Str.ofString "k"), .local), ((Str.ofString "numbers"), .cell), ((Str.ofString "step"), .cell)] }
theorem CL_law_6 {scope : Scope} (hn : scope.names = [((Str.ofString ".0"), .local), ((Str.ofString "k"), .local), ((Str.ofString "numbers"), .free), ((Str.ofString "step"), .free)]) (hk : scope.kind = .function) : CompLay lay_law layc_law_6 scope [3, 13] := comp_lay (by rw [hn]; decide +kernel) hk
noncomputable def C_law_6 : Den := dComp (sRange1 (dName 1)) 1 [3, 13] (uName 0) dYes (dItem (dList (dCons (fun _ => some (.str (Str.ofString "\n"))) (dCons (fun _ => some (.str (Str.ofString "\r"))) (dCons (fun _ => some (.str (Str.ofString "\r\n"))) dNil)))) (dBin fModI (dBin fAddI (dBin fAddI (dBin fDivI (dItem (dName 1) (fun _ => some (.int (0)))) (fun _ => some (.int (24)))) (dName 2)) (dName 0)) (fun _ => some (.int (3)))))
noncomputable def layc_law_7 : Lay := { slots := [(Str.ofString "k"), (Str.ofString "row"), (Str.ofString "ends")], wr := 2, names := [((Str.ofString ".0"), .local), ((Str.ofString "k"), .local), ((Str.ofString "row"), .local), ((Str.ofString "ends"), .cell)] }
theorem CL_law_7 {scope : Scope} (hn : scope.names = [((Str.ofString ".0"), .local), ((Str.ofString "k"), .local), ((Str.ofString "row"), .local), ((Str.ofString "ends"), .free)]) (hk : scope.kind = .function) : CompLay lay_law layc_law_7 scope [14] := comp_lay (by rw [hn]; decide +kernel) hk
noncomputable def C_law_7 : Den := dComp (sEnum (dName 12)) 2 [14] (uTup [0, 1]) dYes (dBin fAddS (dName 1) (dItem (dName 2) (dName 0)))
noncomputable def layc_law_8 : Lay := { slots := [(Str.ofString "k"), (Str.ofString "step"), (Str.ofString "ways"), (Str.ofString "word")], wr := 1, names := [((Str.ofString ".0"), .local), ((Str.ofString "k"), .local), ((Str.ofString "_law_row"), .globalImplicit), ((Str.ofString "step"), .cell), ((Str.ofString "ways"), .cell), ((Str.ofString "word"), .cell)] }
theorem CL_law_8 {scope : Scope} (hn : scope.names = [((Str.ofString ".0"), .local), ((Str.ofString "k"), .local), ((Str.ofString "_law_row"), .globalImplicit), ((Str.ofString "step"), .free), ((Str.ofString "ways"), .free), ((Str.ofString "word"), .free)]) (hk : scope.kind = .function) : CompLay lay_law layc_law_8 scope [13, 9, 4] := comp_lay (by rw [hn]; decide +kernel) hk
noncomputable def C_law_8 : Den := dComp (sRange1 (dName 1)) 1 [13, 9, 4] (uName 0) dYes (dBin fAddS (dCall F_row (dCons (dName 3) (dCons (dName 2) (dCons (dName 0) (dCons (dName 1) dNil))))) (fun _ => some (.str (Str.ofString "\r\n"))))
noncomputable def layc_law_9 : Lay := { slots := [(Str.ofString "k"), (Str.ofString "row"), (Str.ofString "new")], wr := 2, names := [((Str.ofString ".0"), .local), ((Str.ofString "k"), .local), ((Str.ofString "row"), .local), ((Str.ofString "new"), .cell)] }
theorem CL_law_9 {scope : Scope} (hn : scope.names = [((Str.ofString ".0"), .local), ((Str.ofString "k"), .local), ((Str.ofString "row"), .local), ((Str.ofString "new"), .free)]) (hk : scope.kind = .function) : CompLay lay_law layc_law_9 scope [18] := comp_lay (by rw [hn]; decide +kernel) hk
noncomputable def C_law_9 : Den := dComp (sEnum (dName 16)) 2 [18] (uTup [0, 1]) dYes (dMeth isD fGet (dName 2) (dCons (dName 0) (dCons (dName 1) dNil)))
noncomputable def B_law_2 : DenS := (dSeq (dSet 14 C_law_6) (dSeq (dSet 15 (dCall F_quote (dCons (dMeth isS fJoin (fun _ => some (.str (Str.ofString ""))) (dCons C_law_7 dNil)) dNil))) (fun ρ => (dSeq (dIfS (dCmp cNeS (dName 15) (dMeth isS fJoin (fun _ => some (.str (Str.ofString ""))) (dCons C_law_8 dNil))) (dSeq (dRet (fun _ => some (.bool false))) dDone) dDone) (dSeq (dSet 16 (dSlice (dMeth isS fSplit (dName 15) (dCons (fun _ => some (.str (Str.ofString "\r\n"))) dNil)) dPno (dPint (dNeg (fun _ => some (.int (1))))) dPno)) (dSeq (dUn [17, 11] (dCall F_next (dCons (dName 16) (dCons (dName 13) dNil)))) (dSeq (dSet 18 (dDict2 (dName 13) (dBin fAddS (dName 17) (fun _ => some (.str (Str.ofString ".")))) (dName 11) (fun _ => some (.str (Str.ofString "."))))) (dSeq (dSet 12 C_law_9) dDone))))) (frz 9 ρ))))
theorem SB_law_2 (T : Tops X) : SOk X 8 lay_law (subB ((bodyAt 21).getD 11 dStmt)) B_law_2 := (s_cons (st_assign 14 (by decide) rfl (e_comp (CL_law_6 (by rfl) (by rfl)) (src_range1 (e_name 1 rfl) (by decide +kernel) T.n_range T.b_range) (tg_name 0 (by decide) rfl) (upd_name 0) c_nil (e_item (e_list (es_cons e_str (es_cons e_str (es_cons e_str es_nil)))) (e_bin (e_bin (e_bin (e_bin (e_item (e_name 1 rfl) e_int) e_int b_divI) (e_name 2 rfl) b_addI) (e_name 0 rfl) b_addI) e_int b_modI))) (by intro env h1 h2; exact swaps_is h1 h2 (by decide +kernel))) (s_cons (st_assign 15 (by decide) rfl (e_call (by decide +kernel) T.d_quote.hv T.d_quote.ho T.d_quote.hdata ((call_quote T).up (by decide)) (es_cons (e_meth e_str g_join c_join (es_cons (e_comp (CL_law_7 (by rfl) (by rfl)) (src_enum (e_name 12 rfl) (by decide +kernel) T.n_enumerate T.b_enumerate) (tg_tup (.cons (by decide) rfl (.cons (by decide) rfl .nil))) (upd_tup [0, 1]) c_nil (e_bin (e_name 1 rfl) (e_item (e_name 2 rfl) (e_name 0 rfl)) b_addS)) es_nil)) es_nil))) (s_freeze 9 rfl (s_cons (st_if (t_cmp (e_name 15 rfl) (e_meth e_str g_join c_join (es_cons (e_comp (CL_law_8 (by rfl) (by rfl)) (src_range1 (e_name 1 rfl) (by decide +kernel) T.n_range T.b_range) (tg_name 0 (by decide) rfl) (upd_name 0) c_nil (e_bin (e_call (by decide +kernel) T.d_row.hv T.d_row.ho T.d_row.hdata ((call_row T).up (by decide)) (es_cons (e_name 3 rfl) (es_cons (e_name 2 rfl) (es_cons (e_name 0 rfl) (es_cons (e_name 1 rfl) es_nil))))) e_str b_addS)) es_nil)) c_neS) (s_cons (st_ret e_bool) s_nil) s_nil) (s_cons (st_assign 16 (by decide) rfl (e_slice (e_meth (e_name 15 rfl) g_split c_split (es_cons e_str es_nil)) p_no (p_int (e_neg e_int)) p_no)) (s_cons (st_unpack (.cons (by decide) rfl (.cons (by decide) rfl .nil)) (e_call (by decide +kernel) T.d_next.hv T.d_next.ho T.d_next.hdata ((call_next T).up (by decide)) (es_cons (e_name 16 rfl) (es_cons (e_name 13 rfl) es_nil)))) (s_cons (st_assign 18 (by decide) rfl (e_dict2 (e_name 13 rfl) (e_bin (e_name 17 rfl) e_str b_addS) (e_name 11 rfl) e_str)) (s_cons (st_comp 12 (by decide) rfl (CL_law_9 (by rfl) (by rfl)) (src_enum (e_name 16 rfl) (by decide +kernel) T.n_enumerate T.b_enumerate) (tg_tup (.cons (by decide) rfl (.cons (by decide) rfl .nil))) (upd_tup [0, 1]) c_nil (e_meth (e_name 2 rfl) g_get c_get (es_cons (e_name 0 rfl) (es_cons (e_name 1 rfl) es_nil))) (by intro env h1 h2; exact swaps_is h1 h2 (by decide +kernel))) s_nil))))))))
noncomputable def layc_law_10 : Lay := { slots := [(Str.ofString "sign")], wr := 1, names := [((Str.ofString ".0"), .local), ((Str.ofString "sign"), .local)] }
theorem CL_law_10 {scope : Scope} (hn : scope.names = [((Str.ofString ".0"), .local), ((Str.ofString "sign"), .local)]) (hk : scope.kind = .function) : CompLay lay_law layc_law_10 scope [] := comp_lay (by rw [hn]; decide +kernel) hk
noncomputable def C_law_10 : Den := dComp (sList (dName 4)) 1 [] (uName 0) dYes (dCdict [(PyData.str (Str.ofString "r"), PyData.str (Str.ofString "r")), (PyData.str (Str.ofString "g"), PyData.str (Str.ofString "b")), (PyData.str (Str.ofString "b"), PyData.str (Str.ofString "g"))] (dName 0))
noncomputable def D_law : DenS := (dSeq (dSet 1 (dIf (dCmp cGtI (dCall fLen (dCons (dName 0) dNil)) (fun _ => some (.int (5)))) (fun _ => some (.int (9))) (fun _ => some (.int (6))))) (dSeq (dOwn 2 (dCons (fun _ => some (.int (2))) (dCons (fun _ => some (.int (4))) (dCons (fun _ => some (.int (10))) (dCons (fun _ => some (.int (16))) (dCons (fun _ => some (.int (20))) (dCons (fun _ => some (.int (5))) (dCons (fun _ => some (.int (8))) (dCons (fun _ => some (.int (14))) dNil))))))))) (fun ρ => (dSeq (dSet 3 C_law_1) (dSeq (dSet 4 (dCall F_word (dCons (dName 3) dNil))) (dSeq (dOwn 5 (dCons (fun _ => some (.str (Str.ofString "\\)"))) (dCons (fun _ => some (.str (Str.ofString "\")\""))) (dCons (fun _ => some (.str (Str.ofString "\\("))) (dCons (fun _ => some (.str (Str.ofString "\"(\""))) (dCons (fun _ => some (.str (Str.ofString "\\\""))) (dCons (fun _ => some (.str (Str.ofString "\"\\\")\""))) (dCons (fun _ => some (.str (Str.ofString "\\\\"))) dNil)))))))) (fun ρ => (dSeq (dSet 6 (dBin fAddL (dList (dCons (fun _ => some (.str (Str.ofString ""))) dNil)) C_law_3)) (dSeq (dSet 8 C_law_4) (dSeq (dIfS (dCmp cInL (dList dNil) (dName 8)) (dSeq (dRet (fun _ => some (.bool false))) dDone) dDone) (dSeq (dOwn 9 dNil) (dSeq (dFor (sEnum (dName 4)) (uTup [10, 7]) B_law_1) (fun ρ => (dSeq (dSet 12 (dCall F_rows (dCons (dName 4) (dCons (dName 9) dNil)))) (dSeq (dFor (sRange1 (dName 1)) (uName 13) B_law_2) (fun ρ => (dSeq (dRet (dB (dCmp cEqL (dName 12) (dCall F_rows (dCons C_law_10 (dCons (dName 9) dNil)))))) dDone) (frz 9 ρ)))) (frz 9 ρ))))))) (frz 5 ρ))))) (frz 2 ρ))))
theorem S_law (T : Tops X) : SOk X 8 lay_law (bodyAt 21) D_law := (s_cons (st_assign 1 (by decide) rfl (e_ife (t_cmp (e_blt (by decide +kernel) T.n_len T.b_len c_len (es_cons (e_name 0 rfl) es_nil)) e_int c_gtI) e_int e_int)) (s_cons (st_own 2 (by decide) rfl (es_cons e_int (es_cons e_int (es_cons e_int (es_cons e_int (es_cons e_int (es_cons e_int (es_cons e_int (es_cons e_int es_nil))))))))) (s_freeze 2 rfl (s_cons (st_assign 3 (by decide) rfl (e_comp (CL_law_1 (by rfl) (by rfl)) (src_range1 (e_bin (e_name 1 rfl) e_int b_subI) (by decide +kernel) T.n_range T.b_range) (tg_name 0 (by decide) rfl) (upd_name 0) c_nil (e_bin (e_item (e_name 1 rfl) (e_name 0 rfl)) (e_blt (by decide +kernel) T.n_sum T.b_sum c_sum (es_cons (e_comp (CL_law_2 (by rfl) (by rfl)) (src_list (e_slice (e_name 2 rfl) (p_int (e_name 0 rfl)) p_no (p_int (e_bin (e_name 3 rfl) e_int b_subI)))) (tg_name 0 (by decide) rfl) (upd_name 0) c_nil (e_bin (e_name 0 rfl) (e_bin e_int e_int b_powI) b_modI)) es_nil)) b_addI)) (by intro env h1 h2; exact swaps_is h1 h2 (by decide +kernel))) (s_cons (st_assign 4 (by decide) rfl (e_call (by decide +kernel) T.d_word.hv T.d_word.ho T.d_word.hdata ((call_word T).up (by decide)) (es_cons (e_name 3 rfl) es_nil))) (s_cons (st_own 5 (by decide) rfl (es_cons e_str (es_cons e_str (es_cons e_str (es_cons e_str (es_cons e_str (es_cons e_str (es_cons e_str es_nil)))))))) (s_freeze 5 rfl (s_cons (st_assign 6 (by decide) rfl (e_bin (e_list (es_cons e_str es_nil)) (e_comp (CL_law_3 (by rfl) (by rfl)) (src_list (e_name 3 rfl)) (tg_name 0 (by decide) rfl) (upd_name 0) c_nil (e_item (e_name 1 rfl) (e_bin (e_bin (e_name 0 rfl) e_int b_divI) e_int b_modI))) b_addL)) (s_cons (st_comp 8 (by decide) rfl (CL_law_4 (by rfl) (by rfl)) (src_str e_str) (tg_name 0 (by decide) rfl) (upd_name 0) c_nil (e_call (by decide +kernel) T.d_ties.hv T.d_ties.ho T.d_ties.hdata ((call_ties T).up (by decide)) (es_cons (e_name 2 rfl) (es_cons (e_name 0 rfl) (es_cons (e_name 1 rfl) es_nil)))) (by intro env h1 h2; exact swaps_is h1 h2 (by decide +kernel))) (s_cons (st_if (t_cmp (e_list es_nil) (e_name 8 rfl) c_inL) (s_cons (st_ret e_bool) s_nil) s_nil) (s_cons (st_own 9 (by decide) rfl es_nil) (s_cons (st_for  (src_enum (e_name 4 rfl) (by decide +kernel) T.n_enumerate T.b_enumerate) (tg_tup (.cons (by decide) rfl (.cons (by decide) rfl .nil))) (SB_law_1 T)) (s_freeze 9 rfl (s_cons (st_assign 12 (by decide) rfl (e_call (by decide +kernel) T.d_rows.hv T.d_rows.ho T.d_rows.hdata ((call_rows T).up (by decide)) (es_cons (e_name 4 rfl) (es_cons (e_name 9 rfl) es_nil)))) (s_cons (st_for  (src_range1 (e_name 1 rfl) (by decide +kernel) T.n_range T.b_range) (tg_name 13 (by decide) rfl) (SB_law_2 T)) (s_freeze 9 rfl (s_cons (st_ret (e_cmp (e_name 12 rfl) (e_call (by decide +kernel) T.d_rows.hv T.d_rows.ho T.d_rows.hdata ((call_rows T).up (by decide)) (es_cons (e_comp (CL_law_10 (by rfl) (by rfl)) (src_list (e_name 4 rfl)) (tg_name 0 (by decide) rfl) (upd_name 0) c_nil (e_cdict (e_name 0 rfl) (by rfl) (by decide +kernel) (by decide +kernel) (by rfl) (by rfl) (by exact List.cons_ne_nil _ _) (by decide))) (es_cons (e_name 9 rfl) es_nil))) c_eqL)) s_nil)))))))))))))))))
noncomputable def F_law : List PV → Option PV := callDef 18 1 D_law
theorem DL_law : DefLay lay_law [(Str.ofString "script")] (scopeAt 21) := ⟨rfl, rfl, rfl, by decide +kernel, by decide +kernel⟩
theorem call_law (T : Tops X) : CallOk X 9 (.ref T.d_law.fa) F_law := call_ok (xs := [(Str.ofString "script")]) 18 T.d_law.ho T.d_law.hdata T.d_law.hcd DL_law (S_law T) (elim1 fun _ => rfl)
end
end Mine
end

section
open PySem PySem.W PyProof.Rows PySem.Builtin
set_option Elab.async false
set_option autoImplicit false
set_option linter.unusedVariables false
set_option linter.unusedSimpArgs false
set_option maxRecDepth 100000
namespace Mine
noncomputable abbrev ch (c : Nat) : PV := .str ⟨#[c]⟩
noncomputable abbrev nI (n : Nat) : PV := .int (Int.ofNat n)
noncomputable abbrev cW (w : List Nat) : PV := .list (w.map ch)
noncomputable abbrev cN (l : List Nat) : PV := .list (l.map nI)
theorem S_rgb : Str.ofString "rgb" = ⟨#[114, 103, 98]⟩ := by decide +kernel
theorem S_r : Str.ofString "r" = ⟨#[114]⟩ := by decide +kernel
theorem S_g : Str.ofString "g" = ⟨#[103]⟩ := by decide +kernel
theorem S_b : Str.ofString "b" = ⟨#[98]⟩ := by decide +kernel
theorem S_dot : Str.ofString "." = ⟨#[46]⟩ := by decide +kernel
theorem strs_W : ∀ w : List Nat, strsOf (w.map ch) = some (w.map fun c => (⟨#[c]⟩ : Str))
  | [] => rfl
  | c :: w => by simp only [List.map_cons, strsOf, strs_W w]
theorem ints_N : ∀ l : List Nat, intsOf (l.map nI) = some (l.map Int.ofNat)
  | [] => rfl
  | c :: w => by simp only [List.map_cons, intsOf, ints_N w]
noncomputable def cntN (c : Nat) : List Nat → Nat
  | [] => 0
  | d :: l => match Nat.beq d c with
    | true => cntN c l + 1
    | false => cntN c l
theorem count_W (c : Nat) : ∀ w : List Nat, Spec.countIn (.str ⟨#[c]⟩) ((w.map fun c => (⟨#[c]⟩ : Str)).map PyData.str) = Int.ofNat (cntN c w)
  | [] => rfl
  | d :: w => by
    simp only [List.map_cons, Spec.countIn, cntN]
    rw [count_W c w]
    have e : Spec.same (.str ⟨#[d]⟩) (.str ⟨#[c]⟩) = Nat.beq d c := by
      show ((⟨#[d]⟩ : Str) == ⟨#[c]⟩) = _
      exact eq_beq1 d c
    rw [e]
    cases Nat.beq d c with
    | true => simp only [if_pos]; show (1 : Int) + (cntN c w : Int) = ((cntN c w + 1 : Nat) : Int); lia
    | false => simp
theorem fCnt_W (w : List Nat) (c : Nat) : fCntL [.list (w.map ch), .str ⟨#[c]⟩] = some (nI (cntN c w)) := by
  simp only [fCntL, strs_W, count_W]
theorem blt_I (a b : Nat) : decide (Int.ofNat a < Int.ofNat b) = Nat.blt a b := by
  cases h : Nat.blt a b with
  | true => have := Nat.blt_eq.mp h; exact decide_eq_true (Int.ofNat_lt.mpr this)
  | false => exact decide_eq_false (fun q => by rw [Nat.blt_eq.mpr (Int.ofNat_lt.mp q)] at h; cases h)
/-- the signs still free -/
noncomputable def frL (m a b c : Nat) : List Nat :=
  (match Nat.blt a m with | true => [114] | false => []) ++ ((match Nat.blt b a with | true => [103] | false => []) ++ (match Nat.blt c a with | true => [98] | false => []))
noncomputable def freeL (m : Nat) (w : List Nat) : List Nat := frL m (cntN 114 w) (cntN 103 w) (cntN 98 w)
noncomputable def pickL (l : List Nat) (k : Nat) : Option Nat := match l.length with
  | 0 => none
  | n + 1 => l[k % (n + 1)]?
noncomputable def wordStep (m : Nat) (w : List Nat) (k : Nat) : Option (List Nat) := match pickL (freeL m w) k with
  | some c => some (w ++ [c])
  | none => none
noncomputable def wordL (m : Nat) : List Nat → List Nat → Option (List Nat)
  | w, [] => some w
  | w, k :: l => match wordStep m w k with
    | some w' => wordL m w' l
    | none => none
theorem many_is (w : List Nat) (x0 x2 x3 x4 x5 : Slot) : C_word_1 [x0, .val (cW w), x2, x3, x4, x5] = some (.list [nI (cntN 114 w), nI (cntN 103 w), nI (cntN 98 w)]) := by
  unfold C_word_1
  simp only [dComp, sStr, S_rgb, signs, List.map_cons, List.map_nil, List.length_cons, List.length_nil, compD, uName, startC, List.replicate, capS, List.getElem?_cons_succ, List.getElem?_cons_zero, List.cons_append, List.nil_append, List.set_cons_zero, dYes, dMeth, dName, isL, dCons, dNil, fCnt_W]
/- how the plain functions run -/
theorem dSeq_of {d e : DenS} {ρ ρ' : List Slot} {r : Option (Flw × List Slot)} (h : d ρ = some (.next, ρ')) (h2 : e ρ' = r) : dSeq d e ρ = r := by
  unfold dSeq; rw [h]; exact h2
theorem dSeq_ret {d e : DenS} {ρ ρ' : List Slot} {p : PV} (h : d ρ = some (.ret p, ρ')) : dSeq d e ρ = some (.ret p, ρ') := by
  unfold dSeq; rw [h]
theorem dSet_of {i : Nat} {d : Den} {ρ : List Slot} {p : PV} (h : d ρ = some p) : dSet i d ρ = some (.next, ρ.set i (.val p)) := by
  unfold dSet; rw [h]
theorem dRet_of {d : Den} {ρ : List Slot} {p : PV} (h : d ρ = some p) : dRet d ρ = some (.ret p, ρ) := by
  unfold dRet; rw [h]
theorem dCall_of {F : List PV → Option PV} {ds : Dens} {ρ : List Slot} {ps : List PV} (h : ds ρ = some ps) : dCall F ds ρ = F ps := by
  unfold dCall; rw [h]
theorem dIfS_of {t : DenB} {a c : DenS} {ρ : List Slot} {b : Bool} {r : Option (Flw × List Slot)} (h : t ρ = some b) (h1 : b = true → a ρ = r) (h2 : b = false → c ρ = r) : dIfS t a c ρ = r := by
  unfold dIfS; rw [h]
  cases b with
  | true => exact h1 rfl
  | false => exact h2 rfl
theorem dCons_of {d : Den} {ds : Dens} {ρ : List Slot} {p : PV} {ps : List PV} (h : d ρ = some p) (h2 : ds ρ = some ps) : dCons d ds ρ = some (p :: ps) := by
  unfold dCons; rw [h]; dsimp only; rw [h2]
theorem dOne_of {d : Den} {ρ : List Slot} {p : PV} (h : d ρ = some p) : dCons d dNil ρ = some [p] := dCons_of h rfl
theorem dList_of {ds : Dens} {ρ : List Slot} {ps : List PV} (h : ds ρ = some ps) (hl : ps.length ≤ 16777216) : dList ds ρ = some (.list ps) := by
  unfold dList; rw [h]; dsimp only; rw [Nat.ble_eq.mpr hl]
theorem dTup_of {ds : Dens} {ρ : List Slot} {ps : List PV} (h : ds ρ = some ps) (hl : ps.length ≤ 16777216) : dTup ds ρ = some (.tup ps) := by
  unfold dTup; rw [h]; dsimp only; rw [Nat.ble_eq.mpr hl]
theorem dBin_of {f : PV → PV → Option PV} {l r : Den} {ρ : List Slot} {p q : PV} (h : l ρ = some p) (h2 : r ρ = some q) : dBin f l r ρ = f p q := by
  unfold dBin; rw [h]; dsimp only; rw [h2]
theorem dItem_of {l r : Den} {ρ : List Slot} {p q : PV} (h : l ρ = some p) (h2 : r ρ = some q) : dItem l r ρ = fItem p q := dBin_of h h2
theorem dCmp_of {f : PV → PV → Option Bool} {l r : Den} {ρ : List Slot} {p q : PV} (h : l ρ = some p) (h2 : r ρ = some q) : dCmp f l r ρ = f p q := by
  unfold dCmp; rw [h]; dsimp only; rw [h2]
theorem dMeth_of {dom : PV → Bool} {F : List PV → Option PV} {d : Den} {ds : Dens} {ρ : List Slot} {p : PV} {ps : List PV} (h : d ρ = some p) (hd : dom p = true) (h2 : ds ρ = some ps) : dMeth dom F d ds ρ = F (p :: ps) := by
  unfold dMeth; rw [h]; dsimp only; rw [hd]; dsimp only; rw [h2]
theorem dIf_of {t : List Slot → Option Bool} {a b : Den} {ρ : List Slot} {c : Bool} {r : Option PV} (h : t ρ = some c) (h1 : c = true → a ρ = r) (h2 : c = false → b ρ = r) : dIf t a b ρ = r := by
  unfold dIf; rw [h]
  cases c with
  | true => exact h1 rfl
  | false => exact h2 rfl
theorem dLend_of {i j : Nat} {d : Den} {ρ : List Slot} {l : List PV} {p : PV} (h0 : ρ[i]? = some (.own l)) (h1 : isStrs l = true) (h2 : d (ρ.set i (.val (.list l))) = some p) (h3 : isInts p = true) : dLend i j d ρ = some (.next, ρ.set j (.val p)) := by
  unfold dLend; rw [h0]; dsimp only; rw [h1]; dsimp only; rw [h2]; dsimp only; rw [h3]
theorem dOwn_of {i : Nat} {ds : Dens} {ρ : List Slot} {ps : List PV} (h : ds ρ = some ps) (hl : ps.length ≤ 16777216) : dOwn i ds ρ = some (.next, ρ.set i (.own ps)) := by
  unfold dOwn; rw [h]; dsimp only; rw [Nat.ble_eq.mpr hl]
theorem dApp_of {i : Nat} {d : Den} {ρ : List Slot} {l : List PV} {p : PV} (h0 : ρ[i]? = some (.own l)) (h : d ρ = some p) (hl : l.length ≤ 16777216) : dApp i d ρ = some (.next, ρ.set i (.own (l ++ [p]))) := by
  unfold dApp; rw [h0]; dsimp only; rw [h]; dsimp only; rw [Nat.ble_eq.mpr hl]
theorem dFor_of {src : Dens} {upd : List Slot → PV → Option (List Slot)} {D : DenS} {ρ : List Slot} {l : List PV} (h : src ρ = some l) : dFor src upd D ρ = forD upd D l ρ := by
  unfold dFor; rw [h]
theorem fLen_L {l : List PV} (h : l.length ≤ 16777216) : fLen [.list l] = some (nI l.length) := by
  unfold fLen small; dsimp only; rw [Nat.ble_eq.mpr h]
theorem dComp_of {src : Dens} {k : Nat} {caps : List Nat} {upd : List Slot → PV → Option (List Slot)} {t : DenB} {d : Den} {ρ : List Slot} {l qs : List PV} (h : src ρ = some l) (hl : l.length ≤ 16777216) (hc : compD upd t d l (startC k caps ρ) = some qs) : dComp src k caps upd t d ρ = some (.list qs) := by
  unfold dComp; rw [h]; dsimp only; rw [Nat.ble_eq.mpr hl]; dsimp only; rw [hc]
noncomputable def cIf (b : Bool) (q : PV) (qs : List PV) : List PV := match b with
  | true => q :: qs
  | false => qs
theorem compD_cons {upd : List Slot → PV → Option (List Slot)} {t : DenB} {d : Den} {p q : PV} {l qs : List PV} {ρ ρ₁ : List Slot} {b : Bool} (hu : upd ρ p = some ρ₁) (ht : t ρ₁ = some b) (hd : b = true → d ρ₁ = some q) (hr : compD upd t d l ρ₁ = some qs) :
    compD upd t d (p :: l) ρ = some (cIf b q qs) := by
  simp only [compD]
  rw [hu]; dsimp only
  rw [ht]
  cases b with
  | true => dsimp only; rw [hd rfl]; dsimp only; rw [hr]; rfl
  | false => dsimp only; rw [hr]; rfl
theorem compD_all {α : Type} {upd : List Slot → PV → Option (List Slot)} {t : DenB} {d : Den} (enc : α → PV) (bf : α → Bool) (qf : α → PV) (Inv : List Slot → Prop) : ∀ (xs : List α), (∀ a ∈ xs, ∀ ρ, Inv ρ → ∃ ρ₁, upd ρ (enc a) = some ρ₁ ∧ Inv ρ₁ ∧ t ρ₁ = some (bf a) ∧ (bf a = true → d ρ₁ = some (qf a))) →
    ∀ ρ, Inv ρ → compD upd t d (xs.map enc) ρ = some ((xs.filter bf).map qf)
  | [], _, ρ, _ => rfl
  | a :: xs, h, ρ, hi => by
    obtain ⟨ρ₁, h1, h2, h3, h4⟩ := h a List.mem_cons_self ρ hi
    rw [List.map_cons, compD_cons h1 h3 h4 (compD_all enc bf qf Inv xs (fun b hb => h b (List.mem_cons_of_mem _ hb)) ρ₁ h2)]
    cases e : bf a with
    | true => rw [List.filter_cons_of_pos e]; rfl
    | false => rw [List.filter_cons_of_neg (by rw [e]; exact Bool.false_ne_true)]; rfl
theorem free_is (a b c m : Nat) (x0 x1 x2 x5 : Slot) : C_word_2 [x0, x1, x2, .val (.list [nI a, nI b, nI c]), .val (.list [nI m, nI a, nI a]), x5] =
    some (cW (frL m a b c)) := by
  unfold C_word_2 frL
  have e1 : sEnum (fun _ => some (PV.str (Str.ofString "rgb"))) [x0, x1, x2, .val (.list [nI a, nI b, nI c]), .val (.list [nI m, nI a, nI a]), x5] = some [.tup [nI 0, ch 114], .tup [nI 1, ch 103], .tup [nI 2, ch 98]] := by
    simp only [sEnum, fCnt, S_rgb]; rfl
  rw [dComp_of e1 (Nat.le_of_ble_eq_true rfl) (compD_cons (ρ₁ := [.val (nI 0), .val (ch 114), .val (.list [nI a, nI b, nI c]), .val (.list [nI m, nI a, nI a])]) (b := Nat.blt a m) (q := ch 114) rfl (by rw [← blt_I]; rfl) (fun _ => rfl)
    (compD_cons (ρ₁ := [.val (nI 1), .val (ch 103), .val (.list [nI a, nI b, nI c]), .val (.list [nI m, nI a, nI a])]) (b := Nat.blt b a) (q := ch 103) rfl (by rw [← blt_I]; rfl) (fun _ => rfl)
    (compD_cons (ρ₁ := [.val (nI 2), .val (ch 98), .val (.list [nI a, nI b, nI c]), .val (.list [nI m, nI a, nI a])]) (b := Nat.blt c a) (q := ch 98) rfl (by rw [← blt_I]; rfl) (fun _ => rfl) rfl)))]
  cases Nat.blt a m <;> cases Nat.blt b a <;> cases Nat.blt c a <;> rfl
theorem pick_is (l : List Nat) (k c : Nat) (h : pickL l k = some c) (hl : l.length ≤ 1000) : ∃ q, fModI (nI k) (nI l.length) = some q ∧ fItem (cW l) q = some (ch c) := by
  unfold pickL at h
  cases e : l.length with
  | zero => rw [e] at h; cases h
  | succ n =>
    rw [e] at h
    refine ⟨nI (k % (n + 1)), ?_, ?_⟩
    · show some (PV.int ((Int.ofNat k).fmod (Int.ofNat (n + 1)))) = _
      congr 2
      exact (Int.ofNat_fmod k (n + 1)).symm
    have hlt : k % (n + 1) < n + 1 := Nat.mod_lt _ (Nat.succ_pos _)
    have hb : Nat.blt (k % (n + 1)) 16777217 = true := Nat.blt_eq.mpr (by lia)
    simp only [fItem, hb, List.getElem?_map, h, Option.map_some]
theorem freeL_len (m : Nat) (w : List Nat) : (freeL m w).length ≤ 3 := by
  unfold freeL frL
  cases Nat.blt (cntN 114 w) m <;> cases Nat.blt (cntN 103 w) (cntN 114 w) <;> cases Nat.blt (cntN 98 w) (cntN 114 w) <;> simp
/-- one turn of the word's loop -/
theorem word_turn {N w : List Nat} {m k c : Nat} {x3 x4 x5 : Slot} (hN : N.length < 1000) (hm : ((Int.ofNat N.length) + 1).fdiv 3 = Int.ofNat m) (hw : w ≠ []) (hwl : w.length ≤ 1000) (hp : pickL (freeL m w) k = some c) :
    ∃ y3 y4 y5, B_word_1 [.val (cN N), .own (w.map ch), .val (nI k), x3, x4, x5] = some (.next, [.val (cN N), .own ((w ++ [c]).map ch), .val (nI k), y3, y4, y5]) := by
  refine ⟨.val (.list [nI (cntN 114 w), nI (cntN 103 w), nI (cntN 98 w)]), .val (.list [nI m, nI (cntN 114 w), nI (cntN 114 w)]), .val (cW (freeL m w)), ?_⟩
  unfold B_word_1
  refine dSeq_of (ρ' := [.val (cN N), .own (w.map ch), .val (nI k), .val (.list [nI (cntN 114 w), nI (cntN 103 w), nI (cntN 98 w)]), x4, x5]) ?_ ?_
  · have e : isStrs (w.map ch) = true := by
      cases w with
      | nil => exact absurd rfl hw
      | cons a l => rfl
    exact dLend_of rfl e (many_is ..) rfl
  refine dSeq_of (ρ' := [.val (cN N), .own (w.map ch), .val (nI k), .val (.list [nI (cntN 114 w), nI (cntN 103 w), nI (cntN 98 w)]), .own [nI m, nI (cntN 114 w), nI (cntN 114 w)], x5]) ?_ ?_
  · have e3 : fDivI (.int (Int.ofNat N.length + 1)) (.int 3) = some (nI m) := by
      have : (Int.ofNat N.length + 1).fdiv (Int.ofNat 3) = Int.ofNat m := hm
      show some (PV.int ((Int.ofNat N.length + 1).fdiv (Int.ofNat 3))) = _
      rw [this]
    refine dOwn_of (dCons_of (((dBin_of (((dBin_of ((dCall_of (dOne_of (rfl))).trans ((fLen_L (by rw [List.length_map]; exact Nat.le_of_lt (Nat.lt_of_lt_of_le ‹_› (by decide)))).trans (by rw [List.length_map]))) (rfl)).trans rfl)) rfl).trans e3)) (dCons_of rfl (dCons_of rfl rfl))) (Nat.le_of_ble_eq_true rfl)
  show dSeq _ _ [.val (cN N), .own (w.map ch), .val (nI k), .val (.list [nI (cntN 114 w), nI (cntN 103 w), nI (cntN 98 w)]), .val (.list [nI m, nI (cntN 114 w), nI (cntN 114 w)]), x5] = _
  refine dSeq_of (dSet_of (free_is ..)) ?_
  refine dSeq_of (ρ' := [.val (cN N), .own ((w ++ [c]).map ch), .val (nI k), .val (.list [nI (cntN 114 w), nI (cntN 103 w), nI (cntN 98 w)]), .val (.list [nI m, nI (cntN 114 w), nI (cntN 114 w)]), .val (cW (freeL m w))]) ?_ rfl
  obtain ⟨q, hq1, hq2⟩ := pick_is _ _ _ hp (Nat.le_trans (freeL_len m w) (by exact Nat.le_add_left _ _))
  have hlen : (List.map ch (freeL m w)).length ≤ 16777216 := by rw [List.length_map]; exact Nat.le_trans (freeL_len m w) (by exact Nat.le_add_left _ _)
  show dApp 1 (dItem (dName 5) (dBin fModI (dName 2) (dCall fLen (dCons (dName 5) dNil)))) [.val (cN N), .own (w.map ch), .val (nI k), .val (.list [nI (cntN 114 w), nI (cntN 103 w), nI (cntN 98 w)]), .val (.list [nI m, nI (cntN 114 w), nI (cntN 114 w)]), .val (cW (freeL m w))] = _
  refine (dApp_of (p := ch c) rfl ((dItem_of rfl ((dBin_of rfl ((dCall_of (dOne_of rfl)).trans ((fLen_L hlen).trans (by rw [List.length_map])))).trans hq1)).trans hq2) (by rw [List.length_map]; exact Nat.le_trans ‹_› (by decide))).trans ?_
  rw [List.map_append]
  rfl
theorem word_loop {N : List Nat} {m : Nat} (hN : N.length < 1000) (hm : ((Int.ofNat N.length) + 1).fdiv 3 = Int.ofNat m) : ∀ (l w w' : List Nat) (x2 x3 x4 x5 : Slot), w ≠ [] → w.length + l.length ≤ 1000 → wordL m w l = some w' →
    ∃ y2 y3 y4 y5, forD (uName 2) B_word_1 (l.map nI) [.val (cN N), .own (w.map ch), x2, x3, x4, x5] = some (.next, [.val (cN N), .own (w'.map ch), y2, y3, y4, y5])
  | [], w, w', x2, x3, x4, x5, hw, hl, h => by
    simp only [wordL] at h; cases h
    exact ⟨x2, x3, x4, x5, rfl⟩
  | k :: l, w, w', x2, x3, x4, x5, hw, hl, h => by
    simp only [wordL, wordStep] at h
    cases hp : pickL (freeL m w) k with
    | none => rw [hp] at h; cases h
    | some c =>
      rw [hp] at h
      simp only [List.length_cons] at hl
      obtain ⟨y3, y4, y5, ht⟩ := word_turn (x3 := x3) (x4 := x4) (x5 := x5) hN hm hw (by lia) hp
      obtain ⟨z2, z3, z4, z5, hr⟩ := word_loop hN hm l (w ++ [c]) w' (.val (nI k)) y3 y4 y5 (by simp) (by simp; lia) h
      refine ⟨z2, z3, z4, z5, ?_⟩
      rw [List.map_cons]
      simp only [forD]
      have e : uName 2 [.val (cN N), .own (w.map ch), x2, x3, x4, x5] (nI k) = some [.val (cN N), .own (w.map ch), .val (nI k), x3, x4, x5] := rfl
      rw [e]; dsimp only
      rw [ht]; dsimp only
      exact hr
theorem word_is {N w : List Nat} {m : Nat} (hN : N.length < 900) (hm : ((Int.ofNat N.length) + 1).fdiv 3 = Int.ofNat m) (h : wordL m [114] N = some w) : F_word [cN N] = some (cW w) := by
  obtain ⟨y2, y3, y4, y5, hl⟩ := word_loop (N := N) (m := m) (by exact Nat.lt_of_lt_of_le ‹_› (by decide)) hm N [114] w .unset .unset .unset .unset (by simp) (by simp; lia) h
  have : D_word [.val (cN N), .unset, .unset, .unset, .unset, .unset] = some (.ret (cW w), [.val (cN N), .val (cW w), y2, y3, y4, y5]) := by
    unfold D_word
    refine dSeq_of (ρ' := [.val (cN N), .own ([114].map ch), .unset, .unset, .unset, .unset]) (by rw [S_r]; rfl) ?_
    refine dSeq_of (ρ' := [.val (cN N), .own (w.map ch), y2, y3, y4, y5]) ?_ rfl
    exact hl
  unfold F_word callDef
  show (match D_word [.val (cN N), .unset, .unset, .unset, .unset, .unset] with | some (.ret p, _) => some p | some (.next, _) => some .none | _ => none) = _
  rw [this]
end Mine
end

section
open PySem PySem.W PyProof.Rows PySem.Builtin
set_option Elab.async false
set_option autoImplicit false
set_option linter.unusedVariables false
set_option linter.unusedSimpArgs false
set_option maxRecDepth 100000
namespace Mine
noncomputable abbrev tx (l : List Nat) : PV := .str ⟨l.toArray⟩
/- small lists of ints lie low -/
theorem weight_N : ∀ l : List Nat, (∀ x ∈ l, x < 1000) → PyData.weightAll ((l.map Int.ofNat).map PyData.int) ≤ 12 * l.length
  | [], _ => Nat.le_refl _
  | a :: l, h => by
    have ih := weight_N l fun x hx => h x (List.mem_cons_of_mem _ hx)
    have ha := h a List.mem_cons_self
    simp only [List.map_cons, PyData.weightAll, PyData.weight, List.length_cons]
    have : (if (Int.ofNat a == 0) = true then 0 else (Int.ofNat a).natAbs.log2 + 1) ≤ 11 := by
      split
      · exact Nat.zero_le _
      · show a.log2 + 1 ≤ 11
        have hp : a ≠ 0 := fun e => by subst e; rename_i hh; exact hh rfl
        have : a.log2 < 10 := (Nat.log2_lt hp).mpr (by exact Nat.lt_of_lt_of_le ‹_› (by decide))
        (apply Nat.lt_succ_of_lt; assumption)
    lia
theorem can_N : ∀ l : List Nat, PyData.canLayAll0 ((l.map Int.ofNat).map PyData.int) = true
  | [] => by simp [PyData.canLayAll0]
  | a :: l => by simp only [List.map_cons, PyData.canLayAll0, PyData.canLay0, can_N l, Bool.and_self]
theorem depth_N : ∀ l : List Nat, PyData.depthAll ((l.map Int.ofNat).map PyData.int) = 0
  | [] => by simp [PyData.depthAll]
  | a :: l => by simp only [List.map_cons, PyData.depthAll, PyData.depth, depth_N l]; rfl
theorem lay_N (l : List Nat) (h : ∀ x ∈ l, x < 1000) (hl : l.length < 1000) : PyData.layable0 (.list ((l.map Int.ofNat).map .int)) = true := by
  unfold PyData.layable0
  simp only [PyData.canLay0, can_N, PyData.depth, depth_N, PyData.weight, Bool.true_and, Bool.and_eq_true]
  have := weight_N l h
  exact ⟨by decide, decide_eq_true (by lia)⟩
noncomputable def idxN (k : Nat) : List Nat → Nat
  | [] => 0
  | a :: l => match Nat.beq a k with
    | true => 0
    | false => idxN k l + 1
noncomputable def hasN (k : Nat) : List Nat → Bool
  | [] => false
  | a :: l => match Nat.beq a k with
    | true => true
    | false => hasN k l
theorem beq_I (a b : Nat) : (Int.ofNat a == Int.ofNat b) = Nat.beq a b := by
  cases h : Nat.beq a b with
  | true => have := Nat.eq_of_beq_eq_true h; subst this; simp
  | false => have := Nat.ne_of_beq_eq_false h; simp; lia
theorem idx_N (k : Nat) : ∀ l : List Nat, (l.map Int.ofNat).idxOf (Int.ofNat k) = idxN k l
  | [] => rfl
  | a :: l => by
    simp only [List.map_cons, List.idxOf_cons, idxN, beq_I]
    cases Nat.beq a k with
    | true => rfl
    | false => simp only [cond_false]; rw [idx_N k l]
theorem has_N (k : Nat) : ∀ l : List Nat, (l.map Int.ofNat).contains (Int.ofNat k) = hasN k l
  | [] => rfl
  | a :: l => by
    simp only [List.map_cons, List.contains_cons, hasN]
    have : (Int.ofNat k == Int.ofNat a) = Nat.beq a k := by
      rw [← beq_I]
      exact Bool.eq_iff_iff.mpr ⟨fun h => by have := eq_of_beq h; rw [this]; exact beq_self_eq_true _, fun h => by have := eq_of_beq h; rw [this]; exact beq_self_eq_true _⟩
    rw [this, has_N k l]
    cases Nat.beq a k <;> rfl
theorem fIdx_N {l : List Nat} {k : Nat} (h : ∀ x ∈ l, x < 1000) (hl : l.length < 1000) (hk : hasN k l = true) : fIdxL [cN l, nI k] = some (nI (idxN k l)) := by
  unfold fIdxL
  dsimp only
  rw [ints_N]; dsimp only
  rw [has_N, hk]; dsimp only
  rw [lay_N l h hl]; dsimp only
  rw [idx_N]
theorem foldl_one (c : Nat) : ∀ (n : Nat) (acc : Array Nat), (List.replicate n #[c]).foldl (· ++ ·) acc = acc ++ (List.replicate n c).toArray
  | 0, acc => by simp
  | n + 1, acc => by
    rw [List.replicate_succ, List.foldl_cons, foldl_one c n, List.replicate_succ]
    apply Array.ext'
    simp
theorem mul_is (c n : Nat) : Txt.mul ⟨#[c]⟩ (Int.ofNat n) = ⟨(List.replicate n c).toArray⟩ := by
  unfold Txt.mul
  cases n with
  | zero => rfl
  | succ n =>
    rw [if_neg (by show ¬ ((n + 1 : Nat) : Int) < 1; lia)]
    cases n with
    | zero => rfl
    | succ n =>
      have e1 : ¬ ((Int.ofNat (n + 1 + 1) == 1 || (⟨#[c]⟩ : Str).length == 0) = true) := by
        have a1 : (Int.ofNat (n + 1 + 1) == 1) = false := beq_false_of_ne (by show ((n + 1 + 1 : Nat) : Int) ≠ 1; lia)
        have a2 : ((⟨#[c]⟩ : Str).length == 0) = false := rfl
        rw [a1, a2]; exact Bool.false_ne_true
      rw [if_neg e1]
      congr 1
      show (List.replicate (n + 1 + 1) #[c]).foldl (· ++ ·) #[] = _
      rw [foldl_one]; simp
noncomputable def dots (n : Nat) : List Nat := List.replicate n 46
theorem mulSI_is {n : Nat} (h : n ≤ 1000) : fMulSI (.str (Str.ofString ".")) (nI n) = some (tx (dots n)) := by
  unfold fMulSI
  dsimp only
  rw [Nat.ble_eq.mpr h]; dsimp only
  rw [S_dot, mul_is]
  rfl
noncomputable def redL (c turned place step : Nat) : Bool := match Nat.beq c 114 with
  | true => Nat.ble step place || Nat.blt turned step
  | false => Nat.blt turned step && Nat.ble step place
noncomputable def laterL (w ways : List Nat) (c place : Nat) : Nat := match Nat.beq c 114 with
  | true => w.getD (ways.getD place 0) 0
  | false => match Nat.beq c 103 with
    | true => 98
    | false => 103
/-- one row at one time -/
noncomputable def rowL (w ways : List Nat) (place step : Nat) : List Nat :=
  match redL (w.getD place 0) (idxN place ways) place step with
  | true => dots (1 + (step + w.length - idxN place ways) % w.length)
  | false => [match Nat.blt place step with
    | true => laterL w ways (w.getD place 0) place
    | false => w.getD place 0, 46]
theorem item_W {w : List Nat} {k : Nat} (h : k < w.length) (hl : w.length < 1000) : fItem (cW w) (nI k) = some (ch (w.getD k 0)) := by
  have hb : Nat.blt k 16777217 = true := Nat.blt_eq.mpr (by lia)
  simp only [fItem, hb, List.getElem?_map, List.getElem?_eq_getElem h, Option.map_some, List.getD_eq_getElem?_getD, Option.getD_some]
theorem item_N {w : List Nat} {k : Nat} (h : k < w.length) (hl : w.length < 1000) : fItem (cN w) (nI k) = some (nI (w.getD k 0)) := by
  have hb : Nat.blt k 16777217 = true := Nat.blt_eq.mpr (by omega)
  simp only [fItem, hb, List.getElem?_map, List.getElem?_eq_getElem h, Option.map_some, List.getD_eq_getElem?_getD, Option.getD_some]
theorem ble_I (a b : Nat) : decide (Int.ofNat a ≤ Int.ofNat b) = Nat.ble a b := by
  cases h : Nat.ble a b with
  | true => have := Nat.le_of_ble_eq_true h; exact decide_eq_true (Int.ofNat_le.mpr this)
  | false => exact decide_eq_false (fun q => by rw [Nat.ble_eq.mpr (Int.ofNat_le.mp q)] at h; cases h)
theorem mod_is {s n t : Nat} (ht : t < n) : (Int.ofNat s - Int.ofNat t).fmod (Int.ofNat n) = Int.ofNat ((s + n - t) % n) := by
  have e : (Int.ofNat s - Int.ofNat t) = Int.ofNat (s + n - t) - Int.ofNat n := by
    show (s : Int) - t = ((s + n - t : Nat) : Int) - n
    lia
  rw [e]
  show Int.fmod (((s + n - t : Nat) : Int) - (n : Int)) (n : Int) = (((s + n - t) % n : Nat) : Int)
  rw [Int.fmod_eq_emod_of_nonneg _ (Int.natCast_nonneg n)]
  rw [Int.sub_emod_right]
  rfl
theorem modI_is {s n t : Nat} (ht : t < n) : fModI (.int (Int.ofNat s - Int.ofNat t)) (nI n) = some (nI ((s + n - t) % n)) := by
  have : ∀ i : Int, fModI (.int i) (nI n) = some (.int (i.fmod (Int.ofNat n))) := fun i => by
    cases n with
    | zero => lia
    | succ n => rfl
  rw [this, mod_is ht]
theorem dOr_of {a b : DenB} {ρ : List Slot} {x y : Bool} (h : a ρ = some x) (h2 : b ρ = some y) : dOr a b ρ = some (x || y) := by
  unfold dOr; rw [h]; cases x with
  | true => rfl
  | false => exact h2
theorem dAnd_of {a b : DenB} {ρ : List Slot} {x y : Bool} (h : a ρ = some x) (h2 : b ρ = some y) : dAnd a b ρ = some (x && y) := by
  unfold dAnd; rw [h]; cases x with
  | true => exact h2
  | false => rfl
theorem dB_of {d : DenB} {ρ : List Slot} {x : Bool} (h : d ρ = some x) : dB d ρ = some (.bool x) := by
  unfold dB; rw [h]
theorem dCmp2_of {f g : PV → PV → Option Bool} {l m r : Den} {ρ : List Slot} {p q s : PV} {x y : Bool} (h1 : l ρ = some p) (h2 : m ρ = some q) (h3 : r ρ = some s) (hf : f p q = some x) (hg : g q s = some y) : dCmp2 f g l m r ρ = some (x && y) := by
  unfold dCmp2; rw [h1]; dsimp only; rw [h2]; dsimp only; rw [hf]
  cases x with
  | true => dsimp only; rw [h3]; exact hg
  | false => rfl
theorem cLt_N (a b : Nat) : cLtI (nI a) (nI b) = some (Nat.blt a b) := by show some (decide _) = _; rw [blt_I]
theorem cLe_N (a b : Nat) : cLeI (nI a) (nI b) = some (Nat.ble a b) := by show some (decide _) = _; rw [ble_I]
theorem cGt_N (a b : Nat) : cGtI (nI a) (nI b) = some (Nat.blt b a) := by show some (decide _) = _; rw [blt_I]
theorem cEq_N (a b : Nat) : cEqI (nI a) (nI b) = some (Nat.beq a b) := by show some (_ == _) = _; rw [beq_I]
theorem cEq_ch (a b : Nat) : cEqS (ch a) (ch b) = some (Nat.beq a b) := by show some (_ == _) = _; rw [eq_beq1]
theorem row_is {w ways : List Nat} {place step : Nat} (hw : w.length < 900) (hways : ways.length < 900) (hb : ∀ x ∈ ways, x < w.length) (hh : hasN place ways = true) (ht : idxN place ways < w.length) (hp : place < w.length) (hpw : place < ways.length) :
    F_row [cW w, cN ways, nI place, nI step] = some (tx (rowL w ways place step)) := by
  have e0 : dMeth isL fIdxL (dName 1) (dCons (dName 2) dNil) [.val (cW w), .val (cN ways), .val (nI place), .val (nI step), .unset, .unset, .unset] = some (nI (idxN place ways)) :=
    (dMeth_of rfl rfl (dOne_of rfl)).trans (fIdx_N (fun x hx => Nat.lt_trans (hb x hx) (by exact Nat.lt_of_lt_of_le ‹_› (by decide))) (by exact Nat.lt_of_lt_of_le ‹_› (by decide)) hh)
  have ec : ∀ s3 s4 s5, dCmp cEqS (dItem (dName 0) (dName 2)) (fun _ => some (.str (Str.ofString "r"))) [.val (cW w), .val (cN ways), .val (nI place), s3, s4, s5, .unset] = some (Nat.beq (w.getD place 0) 114) := fun s3 s4 s5 => by
    refine (dCmp_of ((dItem_of rfl rfl).trans (item_W hp (by omega))) rfl).trans ?_
    rw [S_r]
    show some ((⟨#[w.getD place 0]⟩ : Str) == ⟨#[114]⟩) = _
    rw [eq_beq1]
  unfold F_row callDef
  show (match D_row [.val (cW w), .val (cN ways), .val (nI place), .val (nI step), .unset, .unset, .unset] with | some (.ret p, _) => some p | some (.next, _) => some .none | _ => none) = _
  have key : ∃ ρ', D_row [.val (cW w), .val (cN ways), .val (nI place), .val (nI step), .unset, .unset, .unset] = some (.ret (tx (rowL w ways place step)), ρ') := by
    have mid :
      dIfS (dCmp cEqS (dItem (dName 0) (dName 2)) (fun _ => some (.str (Str.ofString "r")))) (dSeq (dSet 5 (dB (dOr (dCmp cLeI (dName 3) (dName 2)) (dCmp cGtI (dName 3) (dName 4))))) (dSeq (dSet 6 (dItem (dName 0) (dItem (dName 1) (dName 2)))) dDone)) (dSeq (dSet 5 (dB (dCmp2 cLtI cLeI (dName 4) (dName 3) (dName 2)))) (dSeq (dSet 6 (dIf (dCmp cEqS (dItem (dName 0) (dName 2)) (fun _ => some (.str (Str.ofString "g")))) (fun _ => some (.str (Str.ofString "b"))) (fun _ => some (.str (Str.ofString "g"))))) dDone))
        [.val (cW w), .val (cN ways), .val (nI place), .val (nI step), .val (nI (idxN place ways)), .unset, .unset] = some (.next, [.val (cW w), .val (cN ways), .val (nI place), .val (nI step), .val (nI (idxN place ways)), .val (.bool (redL (w.getD place 0) (idxN place ways) place step)), .val (ch (laterL w ways (w.getD place 0) place))]) := by
      refine dIfS_of (ec _ _ _) (fun hc => ?_) fun hc => ?_
      · unfold redL laterL; rw [hc]
        refine dSeq_of (dSet_of (dB_of (dOr_of ((dCmp_of rfl rfl).trans (cLe_N step place)) ((dCmp_of rfl rfl).trans (cGt_N step (idxN place ways)))))) ?_
        refine dSeq_of (dSet_of ((dItem_of rfl ((dItem_of rfl rfl).trans (item_N hpw (by omega)))).trans (item_W (hb _ ?_) (by omega)))) rfl
        rw [List.getD_eq_getElem?_getD, List.getElem?_eq_getElem hpw]
        exact List.getElem_mem hpw
      · unfold redL laterL; rw [hc]
        refine dSeq_of (dSet_of (dB_of (dCmp2_of rfl rfl rfl (cLt_N _ _) (cLe_N _ _)))) ?_
        refine dSeq_of (dSet_of (p := ch _) (dIf_of (c := Nat.beq (w.getD place 0) 103) ?_ (fun h => ?_) fun h => ?_)) rfl
        · refine (dCmp_of ((dItem_of rfl rfl).trans (item_W hp (by omega))) (congrArg _ (congrArg _ S_g))).trans (cEq_ch _ _)
        · rw [h]; show some (PV.str (Str.ofString "b")) = _; rw [S_b]
        · rw [h]; show some (PV.str (Str.ofString "g")) = _; rw [S_g]
    unfold D_row rowL
    generalize redL (w.getD place 0) (idxN place ways) place step = red at mid
    generalize laterL w ways (w.getD place 0) place = later at mid
    have end1 : ∀ c : Nat, fAddS (ch c) (.str (Str.ofString ".")) = some (tx [c, 46]) := fun c => by
      rw [S_dot]; rfl
    cases red with
    | true =>
      refine ⟨_, dSeq_of (dSet_of e0) (dSeq_of mid (dSeq_ret (dIfS_of (b := true) rfl (fun _ => dSeq_ret (dRet_of ?_)) fun h => by cases h)))⟩
      refine (dBin_of rfl ((dBin_of rfl ((dBin_of ((dBin_of rfl rfl).trans rfl) ((dCall_of (dOne_of rfl)).trans ((fLen_L (by rw [List.length_map]; exact Nat.le_of_lt (Nat.lt_of_lt_of_le ‹_› (by decide)))).trans (by rw [List.length_map])))).trans (modI_is ht))).trans rfl)).trans ?_
      have := Nat.mod_lt (step + w.length - idxN place ways) (show 0 < w.length by exact Nat.lt_of_le_of_lt (Nat.zero_le _) ‹_›)
      refine mulSI_is (n := 1 + (step + w.length - idxN place ways) % w.length) ?_
      lia
    | false =>
      refine ⟨_, dSeq_of (dSet_of e0) (dSeq_of mid (dSeq_of (dIfS_of (b := false) rfl (fun h => by cases h) fun _ => rfl) (dSeq_ret (dRet_of ?_))))⟩
      refine (dBin_of (p := ch (match Nat.blt place step with | true => later | false => w.getD place 0)) (dIf_of ((dCmp_of rfl rfl).trans (cGt_N _ _)) (fun h => ?_) fun h => ?_) rfl).trans (end1 _)
      · rw [h]; rfl
      · rw [h]; exact (dItem_of rfl rfl).trans (item_W hp (by omega))
  obtain ⟨ρ', h⟩ := key
  rw [h]
noncomputable abbrev cR (l : List (List Nat)) : PV := .list (l.map tx)
noncomputable def enumN : Nat → List Nat → List (Nat × Nat)
  | _, [] => []
  | k, a :: l => (k, a) :: enumN (k + 1) l
theorem enum_is (f : Nat → PV) : ∀ (k : Nat) (l : List Nat), enumFrom k (l.map f) = (enumN k l).map fun p => .tup [nI p.1, f p.2]
  | _, [] => rfl
  | k, a :: l => by
    simp only [List.map_cons, enumFrom, enumN]
    rw [enum_is f (k + 1) l]
    rfl
theorem enum_mem {a : Nat × Nat} : ∀ {k : Nat} {l : List Nat}, a ∈ enumN k l → k ≤ a.1 ∧ a.1 < k + l.length ∧ l.getD (a.1 - k) 0 = a.2
  | k, [], h => by simp [enumN] at h
  | k, b :: l, h => by
    simp only [enumN, List.mem_cons] at h
    rcases h with rfl | h
    · simp
    · obtain ⟨h1, h2, h3⟩ := enum_mem h
      refine ⟨by (apply Nat.le_of_lt; assumption), by simp only [List.length_cons]; lia, ?_⟩
      have e : a.1 - k = (a.1 - (k + 1)) + 1 := by lia
      rw [e, List.getD_cons_succ]; exact h3
theorem enum_len : ∀ (k : Nat) (l : List Nat), (enumN k l).length = l.length
  | _, [] => rfl
  | k, a :: l => by simp [enumN, enum_len (k + 1) l]
/-- the rows before the first step -/
noncomputable def row0 (L : Nat) (ways : List Nat) (p : Nat × Nat) : List Nat := match Nat.beq p.2 114 with
  | true => dots (L - idxN p.1 ways)
  | false => [p.2, 46]
noncomputable def rowsL (w ways : List Nat) : List (List Nat) := (enumN 0 w).map (row0 w.length ways)
theorem rows_is {w ways : List Nat} (hw : w.length < 900) (hways : ways.length < 900) (hb : ∀ x ∈ ways, x < 1000) (hh : ∀ k < w.length, w.getD k 0 = 114 → hasN k ways = true ∧ idxN k ways ≤ w.length) : F_rows [cW w, cN ways] = some (cR (rowsL w ways)) := by
  have hl : (enumN 0 w).map (fun p => PV.tup [nI p.1, ch p.2]) = enumFrom 0 (w.map ch) := (enum_is ch 0 w).symm
  have hc : C_rows_1 [.val (cW w), .val (cN ways)] = some (cR (rowsL w ways)) := by
    unfold C_rows_1
    have ez : cR (rowsL w ways) = .list ((enumN 0 w).map fun p => tx (row0 w.length ways p)) := by unfold rowsL cR; rw [List.map_map]; rfl
    rw [ez]
    refine dComp_of (l := enumFrom 0 (w.map ch)) rfl (by rw [← hl, List.length_map, enum_len]; exact Nat.le_of_lt (Nat.lt_of_lt_of_le ‹_› (by decide))) ?_
    · rw [← hl]
      refine (compD_all (fun p => PV.tup [nI p.1, ch p.2]) (fun _ => true) (fun p => tx (row0 w.length ways p)) (fun ρ => ∃ x y, ρ = [x, y, .val (cN ways), .val (cW w)]) (enumN 0 w) (fun a ha ρ hρ => ?_) _ ⟨.unset, .unset, rfl⟩).trans (by rw [List.filter_eq_self.mpr (fun _ _ => rfl)])
      obtain ⟨x, y, rfl⟩ := hρ
      obtain ⟨_, h2, h3⟩ := enum_mem ha
      refine ⟨[.val (nI a.1), .val (ch a.2), .val (cN ways), .val (cW w)], rfl, ⟨_, _, rfl⟩, rfl, fun _ => ?_⟩
      refine dIf_of (c := Nat.beq a.2 114) ((dCmp_of rfl (congrArg _ (congrArg _ S_r))).trans (cEq_ch _ _)) (fun h => ?_) fun h => ?_
      · have hk := hh a.1 (by lia) (by rw [show a.1 = a.1 - 0 from rfl, h3]; exact Nat.eq_of_beq_eq_true h)
        have e : row0 w.length ways a = dots (w.length - idxN a.1 ways) := by unfold row0; rw [h]
        rw [e]
        have es : fSubI (nI w.length) (nI (idxN a.1 ways)) = some (nI (w.length - idxN a.1 ways)) := by
          show some (PV.int _) = some (PV.int _)
          congr 2
          show (w.length : Int) - (idxN a.1 ways : Int) = ((w.length - idxN a.1 ways : Nat) : Int)
          have := hk.2
          omega
        refine (dBin_of rfl ((dBin_of ((dCall_of (dOne_of rfl)).trans ((fLen_L (by rw [List.length_map]; exact Nat.le_of_lt (Nat.lt_of_lt_of_le ‹_› (by decide)))).trans (by rw [List.length_map]))) ((dMeth_of rfl rfl (dOne_of rfl)).trans (fIdx_N hb (by exact Nat.lt_of_lt_of_le ‹_› (by decide)) hk.1))).trans es)).trans (mulSI_is (by lia))
      · have e : row0 w.length ways a = [a.2, 46] := by unfold row0; rw [h]
        rw [e]
        refine (dBin_of rfl rfl).trans ?_
        rw [S_dot]; rfl
  unfold F_rows callDef
  show (match D_rows [.val (cW w), .val (cN ways)] with | some (.ret p, _) => some p | some (.next, _) => some .none | _ => none) = _
  have : D_rows [.val (cW w), .val (cN ways)] = some (.ret (cR (rowsL w ways)), [.val (cW w), .val (cN ways)]) := by
    unfold D_rows
    exact dSeq_ret (dRet_of hc)
  rw [this]
end Mine
end

section
open PySem PySem.W PyProof.Rows PySem.Builtin
set_option Elab.async false
set_option autoImplicit false
set_option linter.unusedVariables false
set_option linter.unusedSimpArgs false
set_option maxRecDepth 100000
namespace Mine
theorem ext_str {x : Str} {l : List Nat} (h : x.cps.toList = l) : x = ⟨l.toArray⟩ := by
  cases x with
  | mk c => simp at h; subst h; simp
theorem str_add (x y : Str) : (x ++ y).cps.toList = x.cps.toList ++ y.cps.toList := by
  show (x.cps ++ y.cps).toList = _
  simp
theorem join_flat : ∀ l : List Str, (Txt.join ⟨#[]⟩ l).cps.toList = l.flatMap fun x => x.cps.toList := by
  intro l
  show (Builtin.Str.glued ⟨#[]⟩ l).cps.toList = _
  rw [StrLaws.glued_eq_join]
  induction l with
  | nil => rfl
  | cons x l ih =>
    cases l with
    | nil => simp [Str.join]
    | cons y l =>
      show (x ++ ⟨#[]⟩ ++ Str.join ⟨#[]⟩ (y :: l)).cps.toList = _
      rw [str_add, str_add, ih]
      simp
noncomputable def flatS (l : List Str) : List Nat := l.flatMap fun x => x.cps.toList
theorem join_is (l : List Str) : Txt.join ⟨#[]⟩ l = ⟨(flatS l).toArray⟩ := ext_str (join_flat l)
theorem sum_flat : ∀ l : List Str, (l.map (·.length)).sum = (flatS l).length
  | [] => rfl
  | x :: l => by
    rw [List.map_cons, List.sum_cons, sum_flat l]
    unfold flatS
    rw [List.flatMap_cons, List.length_append]
    rfl
theorem flat_app (a b : List Str) : flatS (a ++ b) = flatS a ++ flatS b := by unfold flatS; rw [List.flatMap_append]
theorem flat_cut (text : Array Nat) (a b : Nat) : flatS (cut text a b) = (text.toList.drop a).take (b - a) := by
  unfold cut
  cases h : Nat.blt a b with
  | true =>
    show [(⟨text.extract a b⟩ : Str)].flatMap (fun x => x.cps.toList) = _
    rw [List.flatMap_cons, List.flatMap_nil, List.append_nil]
    show (text.extract a b).toList = _
    rw [Array.toList_extract]
  | false =>
    have : b - a = 0 := by
      have : ¬ a < b := fun q => by rw [Nat.blt_eq.mpr q] at h; cases h
      lia
    rw [this]; simp [flatS]
theorem subL_len (text : Array Nat) (next : Nat → Option (Nat × Nat)) (r : Str) : ∀ k d, (subL text next r k d).length ≤ 2 * k + 1
  | 0, d => by
    unfold subL cut
    cases Nat.blt d text.size <;> simp
  | k + 1, d => by
    unfold subL
    split
    · rename_i p e h
      have := subL_len text next r k e
      have hc : (cut text d p).length ≤ 1 := by unfold cut; cases Nat.blt d p <;> simp
      simp only [List.length_append, List.length_cons]
      lia
    · have hc : (cut text d text.size).length ≤ 1 := by unfold cut; cases Nat.blt d text.size <;> simp
      lia
/- line ends -/
noncomputable def sub2G : Bool → List Nat → List Nat
  | _, [] => []
  | p, c :: l => match isEol c with
    | false => c :: sub2G false l
    | true => match p && c == 10 with
      | true => sub2G false l
      | false => 13 :: 10 :: sub2G (c == 13) l
noncomputable abbrev sub2F : List Nat → List Nat := sub2G false
theorem sub2_flag {p : Bool} {l : List Nat} (h : ∀ l', l ≠ 10 :: l') : sub2G p l = sub2G false l := by
  cases l with
  | nil => rfl
  | cons c l =>
    have hc : (c == 10) = false := beq_false_of_ne fun e => h l (by rw [e])
    simp only [sub2G, hc, Bool.and_false]
theorem drop_at {text : Array Nat} {s : Nat} (h : s < text.size) : text.toList.drop s = text.getD s 0 :: text.toList.drop (s + 1) := by
  have e : text.getD s 0 = text.toList[s]'(by simpa using h) := by simp [Array.getD, h]
  rw [List.drop_eq_getElem_cons (by simpa using h), e]
theorem scan2 {text : Array Nat} : ∀ (n p : Nat), p + n = text.size → match firstEol text n p with
    | some s => p ≤ s ∧ s < text.size ∧ isEol (text.getD s 0) = true ∧ sub2F (text.toList.drop p) = (text.toList.drop p).take (s - p) ++ sub2F (text.toList.drop s)
    | none => sub2F (text.toList.drop p) = text.toList.drop p
  | 0, p, h => by
    simp only [firstEol]
    have : text.toList.drop p = [] := List.drop_eq_nil_of_le (by simp; lia)
    rw [this]; rfl
  | n + 1, p, h => by
    have hp : p < text.size := by lia
    have ih := scan2 (text := text) n (p + 1) (by lia)
    simp only [firstEol]
    cases he : isEol (text.getD p 0) with
    | true =>
      dsimp only
      refine ⟨Nat.le_refl _, hp, he, ?_⟩
      simp
    | false =>
      dsimp only
      have e1 : sub2F (text.toList.drop p) = text.getD p 0 :: sub2F (text.toList.drop (p + 1)) := by
        rw [drop_at hp]; show sub2G false _ = _; simp only [sub2G, he]
      cases hf : firstEol text n (p + 1) with
      | none =>
        rw [hf] at ih
        dsimp only at ih ⊢
        rw [e1, ih, ← drop_at hp]
      | some s =>
        rw [hf] at ih
        dsimp only at ih ⊢
        obtain ⟨h1, h2, h3, h4⟩ := ih
        refine ⟨by (apply Nat.le_of_lt; assumption), h2, h3, ?_⟩
        rw [e1, h4]
        have : s - p = (s - (p + 1)) + 1 := by lia
        rw [this]
        conv => rhs; rw [drop_at hp]
        rw [List.take_succ_cons]; rfl
theorem sub2_eol {text : Array Nat} {s : Nat} (h : s < text.size) (he : isEol (text.getD s 0) = true) : sub2F (text.toList.drop s) = 13 :: 10 :: sub2F (text.toList.drop (eolEnd text s)) := by
  rw [drop_at h]
  have e0 : sub2F (text.getD s 0 :: text.toList.drop (s + 1)) = 13 :: 10 :: sub2G (text.getD s 0 == 13) (text.toList.drop (s + 1)) := by
    show sub2G false _ = _
    simp only [sub2G, he, Bool.false_and]
  rw [e0]
  unfold eolEnd
  cases h13 : (text.getD s 0 == 13) with
  | false => simp
  | true =>
    by_cases h1 : s + 1 < text.size
    · by_cases h10 : text.getD (s + 1) 0 = 10
      · rw [drop_at h1, h10]
        simp [h1]
        rfl
      · have hb : (text.getD (s + 1) 0 == 10) = false := beq_false_of_ne h10
        rw [hb]
        simp only [Bool.and_false]
        rw [sub2_flag]
        intro l' e
        rw [drop_at h1] at e
        exact h10 (List.cons.inj e).1
    · have : text.toList.drop (s + 1) = [] := List.drop_eq_nil_of_le (by simp; (apply Nat.not_lt.mp; assumption))
      rw [this]
      simp [h1, this, sub2G]
theorem sub2_is {text : Array Nat} {r : Str} (hr : r.cps.toList = [13, 10]) : ∀ (k d : Nat), text.size ≤ d + k → d ≤ text.size → flatS (subL text (next2 text) r k d) = sub2F (text.toList.drop d)
  | 0, d, h, hd => by
    have : text.toList.drop d = [] := List.drop_eq_nil_of_le (by simp; assumption)
    unfold subL
    rw [flat_cut, this, List.take_nil]; rfl
  | k + 1, d, h, hd => by
    have sc := scan2 (text := text) (text.size - d) d (by lia)
    unfold subL next2
    cases hf : firstEol text (text.size - d) d with
    | none =>
      rw [hf] at sc
      dsimp only at sc ⊢
      rw [flat_cut, sc]
      exact List.take_of_length_le (by simp)
    | some s =>
      rw [hf] at sc
      dsimp only at sc ⊢
      obtain ⟨h1, h2, h3, h4⟩ := sc
      have hb := firstEol_le _ _ _ hf
      have hend : s < eolEnd text s ∧ eolEnd text s ≤ text.size := by
        unfold eolEnd
        split
        · rename_i h
          simp only [Bool.and_eq_true, decide_eq_true_eq] at h
          omega
        · lia
      have ih := sub2_is (text := text) hr k (eolEnd text s) (by lia) hend.2
      rw [flat_app, flat_cut, h4, sub2_eol h2 h3]
      congr 1
      show flatS (r :: subL text (next2 text) r k (eolEnd text s)) = _
      rw [← ih]
      unfold flatS
      rw [List.flatMap_cons, hr]
      rfl
/- dots at the head of a line -/
noncomputable def sub1F : Bool → List Nat → List Nat
  | _, [] => []
  | b, c :: l => match b && c == 46 with
    | true => 46 :: 46 :: sub1F (c == 10) l
    | false => c :: sub1F (c == 10) l
theorem bol_succ (text : Array Nat) (s : Nat) : bol text (s + 1) = (text.getD s 0 == 10) := by
  unfold bol
  simp
theorem scan1 {text : Array Nat} : ∀ (n p : Nat), p + n = text.size → match firstDot text n p with
    | some s => p ≤ s ∧ s < text.size ∧ isDot text s = true ∧ sub1F (bol text p) (text.toList.drop p) = (text.toList.drop p).take (s - p) ++ sub1F (bol text s) (text.toList.drop s)
    | none => sub1F (bol text p) (text.toList.drop p) = text.toList.drop p
  | 0, p, h => by
    simp only [firstDot]
    have : text.toList.drop p = [] := List.drop_eq_nil_of_le (by simp; omega)
    rw [this]; rfl
  | n + 1, p, h => by
    have hp : p < text.size := by omega
    have ih := scan1 (text := text) n (p + 1) (by omega)
    simp only [firstDot]
    cases he : isDot text p with
    | true =>
      dsimp only
      refine ⟨Nat.le_refl _, hp, he, ?_⟩
      simp
    | false =>
      dsimp only
      have e1 : sub1F (bol text p) (text.toList.drop p) = text.getD p 0 :: sub1F (bol text (p + 1)) (text.toList.drop (p + 1)) := by
        unfold isDot at he
        rw [drop_at hp, bol_succ]; simp only [sub1F, he]
      cases hf : firstDot text n (p + 1) with
      | none =>
        rw [hf] at ih
        dsimp only at ih ⊢
        rw [e1, ih, ← drop_at hp]
      | some s =>
        rw [hf] at ih
        dsimp only at ih ⊢
        obtain ⟨h1, h2, h3, h4⟩ := ih
        refine ⟨by omega, h2, h3, ?_⟩
        rw [e1, h4]
        have : s - p = (s - (p + 1)) + 1 := by omega
        rw [this]
        conv => rhs; rw [drop_at hp]
        rw [List.take_succ_cons]; rfl
theorem sub1_dot {text : Array Nat} {s : Nat} (h : s < text.size) (he : isDot text s = true) : sub1F (bol text s) (text.toList.drop s) = 46 :: 46 :: sub1F (bol text (s + 1)) (text.toList.drop (s + 1)) := by
  unfold isDot at he
  rw [drop_at h, bol_succ]
  simp only [sub1F, he]
theorem sub1_is {text : Array Nat} {r : Str} (hr : r.cps.toList = [46, 46]) : ∀ (k d : Nat), text.size ≤ d + k → d ≤ text.size → flatS (subL text (next1 text) r k d) = sub1F (bol text d) (text.toList.drop d)
  | 0, d, h, hd => by
    have : text.toList.drop d = [] := List.drop_eq_nil_of_le (by simp; assumption)
    unfold subL
    rw [flat_cut, this, List.take_nil]; rfl
  | k + 1, d, h, hd => by
    have sc := scan1 (text := text) (text.size - d) d (by omega)
    unfold subL next1
    cases hf : firstDot text (text.size - d) d with
    | none =>
      rw [hf] at sc
      dsimp only at sc ⊢
      rw [flat_cut, sc]
      exact List.take_of_length_le (by simp)
    | some s =>
      rw [hf] at sc
      dsimp only at sc ⊢
      obtain ⟨h1, h2, h3, h4⟩ := sc
      have hb := firstDot_lt _ _ _ hf
      have ih := sub1_is (text := text) hr k (s + 1) (by lia) (by assumption)
      rw [flat_app, flat_cut, h4, sub1_dot h2 h3]
      congr 1
      show flatS (r :: subL text (next1 text) r k (s + 1)) = _
      rw [← ih]
      unfold flatS
      rw [List.flatMap_cons, hr]
      rfl
theorem sub2_len : ∀ (b : Bool) (l : List Nat), (sub2G b l).length ≤ 2 * l.length
  | _, [] => Nat.le_refl _
  | b, c :: l => by
    simp only [sub2G]
    split
    · have := sub2_len false l; simp only [List.length_cons]; lia
    · split
      · have := sub2_len false l; simp only [List.length_cons]; lia
      · have := sub2_len (c == 13) l; simp only [List.length_cons]; lia
theorem sub1_len : ∀ (b : Bool) (l : List Nat), (sub1F b l).length ≤ 2 * l.length
  | _, [] => Nat.le_refl _
  | b, c :: l => by
    simp only [sub1F]
    split
    · have := sub1_len (c == 10) l; simp only [List.length_cons]; lia
    · have := sub1_len (c == 10) l; simp only [List.length_cons]; lia
theorem fSub2_is {l : List Nat} (hl : l.length ≤ 1000000) : fSub next2 [.str (Str.ofString "\r\n"), tx l] = some (tx (sub2F l)) := by
  have hr : (Str.ofString "\r\n").cps.toList = [13, 10] := by decide +kernel
  have hc : (Str.ofString "\r\n").cps.contains 92 = false := by decide +kernel
  have e := sub2_is (text := l.toArray) hr l.length 0 (by simp) (by simp)
  rw [List.drop_zero] at e
  have h1 := subL_len l.toArray (next2 l.toArray) (Str.ofString "\r\n") l.length 0
  have h2 := sum_flat (subL l.toArray (next2 l.toArray) (Str.ofString "\r\n") l.length 0)
  have h3 := sub2_len false l
  unfold fSub
  dsimp only
  rw [hc]; dsimp only
  have hs : l.toArray.size = l.length := by simp
  rw [hs, Nat.ble_eq.mpr (by exact Nat.le_trans ‹_› (by decide))]; dsimp only
  rw [Nat.blt_eq.mpr (by lia)]; dsimp only
  rw [h2, e, Nat.ble_eq.mpr (by show (sub2G false l).length ≤ _; lia)]; dsimp only
  rw [join_is, e]
theorem fSub1_is {l : List Nat} (hl : l.length ≤ 1000000) : fSub next1 [.str (Str.ofString ".."), tx l] = some (tx (sub1F true l)) := by
  have hr : (Str.ofString "..").cps.toList = [46, 46] := by decide +kernel
  have hc : (Str.ofString "..").cps.contains 92 = false := by decide +kernel
  have e := sub1_is (text := l.toArray) hr l.length 0 (by simp) (by simp)
  rw [List.drop_zero] at e
  have eb : bol l.toArray 0 = true := rfl
  rw [eb] at e
  have h1 := subL_len l.toArray (next1 l.toArray) (Str.ofString "..") l.length 0
  have h2 := sum_flat (subL l.toArray (next1 l.toArray) (Str.ofString "..") l.length 0)
  have h3 := sub1_len true l
  unfold fSub
  dsimp only
  rw [hc]; dsimp only
  have hs : l.toArray.size = l.length := by simp
  rw [hs, Nat.ble_eq.mpr (by omega)]; dsimp only
  rw [Nat.blt_eq.mpr (by lia)]; dsimp only
  rw [h2, e, Nat.ble_eq.mpr (by show (sub1F true l).length ≤ _; lia)]; dsimp only
  rw [join_is, e]
theorem quote_is {l : List Nat} (hl : l.length ≤ 100000) : F_quote [tx l] = some (tx (sub1F true (sub2F l))) := by
  have h2 := sub2_len false l
  unfold F_quote callDef
  show (match D_quote [.val (tx l)] with | some (.ret p, _) => some p | some (.next, _) => some .none | _ => none) = _
  have : D_quote [.val (tx l)] = some (.ret (tx (sub1F true (sub2F l))), [.val (tx l)]) := by
    unfold D_quote
    refine dSeq_ret (dRet_of ((dCall_of (dCons_of rfl (dOne_of ((dCall_of (dCons_of rfl (dOne_of rfl))).trans (fSub2_is (by exact Nat.le_trans ‹_› (by decide))))))).trans (fSub1_is (by show (sub2G false l).length ≤ _; lia))))
  rw [this]
/- lines, each with its end -/
noncomputable def plainRow (r : List Nat) : Bool := r.all fun c => !isEol c
theorem sub2_row : ∀ (r rest : List Nat), plainRow r = true → sub2F (r ++ rest) = r ++ sub2F rest
  | [], _, _ => rfl
  | c :: r, rest, h => by
    simp only [plainRow, List.all_cons, Bool.and_eq_true, Bool.not_eq_true'] at h
    have ih := sub2_row r rest h.2
    show sub2G false (c :: (r ++ rest)) = _
    simp only [sub2G, h.1]
    show c :: sub2F (r ++ rest) = _
    rw [ih]; rfl
/-- the three ends of a line -/
noncomputable def endL : Nat → List Nat
  | 0 => [10]
  | 1 => [13]
  | _ => [13, 10]
noncomputable def startsOk (l : List Nat) : Bool := match l with
  | [] => true
  | c :: _ => !(c == 10)
theorem sub2_end (k : Nat) (rest : List Nat) (h : startsOk rest = true) : sub2F (endL k ++ rest) = 13 :: 10 :: sub2F rest := by
  have hf : ∀ l', rest ≠ 10 :: l' := fun l' e => by subst e; cases h
  unfold endL
  split
  · rfl
  · show 13 :: 10 :: sub2G true rest = _
    rw [sub2_flag hf]
  · rfl
noncomputable def stuff (r : List Nat) : List Nat := match r with
  | 46 :: _ => 46 :: r
  | _ => r
noncomputable def linesL (rows : List (List Nat)) : List Nat := rows.flatMap fun r => r ++ [13, 10]
noncomputable def sentL (rows : List (List Nat × Nat)) : List Nat := rows.flatMap fun p => p.1 ++ endL p.2
noncomputable def goodRow (r : List Nat) : Bool := match r with
  | [] => false
  | _ => plainRow r
theorem starts_sent : ∀ (rows : List (List Nat × Nat)), rows.all (fun p => goodRow p.1) = true → startsOk (sentL rows) = true
  | [], _ => rfl
  | (r, k) :: rows, h => by
    simp only [List.all_cons, Bool.and_eq_true] at h
    cases r with
    | nil => cases h.1
    | cons c r =>
      have := h.1
      simp only [goodRow, plainRow, List.all_cons, Bool.and_eq_true, Bool.not_eq_true', isEol, Bool.or_eq_false_iff] at this
      show (!(c == 10)) = true
      rw [this.1.1]; rfl
theorem good_plain {r : List Nat} (h : goodRow r = true) : plainRow r = true := by
  cases r with
  | nil => cases h
  | cons c r => exact h
theorem sub2_sent : ∀ (rows : List (List Nat × Nat)), rows.all (fun p => goodRow p.1) = true → sub2F (sentL rows) = linesL (rows.map (·.1))
  | [], _ => rfl
  | (r, k) :: rows, h => by
    have h' := h
    simp only [List.all_cons, Bool.and_eq_true] at h'
    have e : sentL ((r, k) :: rows) = r ++ (endL k ++ sentL rows) := by simp [sentL]
    rw [e, sub2_row r _ (good_plain h'.1), sub2_end _ _ (starts_sent rows h'.2), sub2_sent rows h'.2]
    simp [linesL]
theorem sub1_row : ∀ (r rest : List Nat), plainRow r = true → sub1F false (r ++ 13 :: 10 :: rest) = r ++ 13 :: 10 :: sub1F true rest
  | [], _, _ => rfl
  | c :: r, rest, h => by
    simp only [plainRow, List.all_cons, Bool.and_eq_true, Bool.not_eq_true'] at h
    have ih := sub1_row r rest h.2
    have hc := h.1
    simp only [isEol, Bool.or_eq_false_iff] at hc
    simp only [List.cons_append, sub1F, Bool.false_and, hc.1, ih]
theorem sub1_line (r rest : List Nat) (h : plainRow r = true) : sub1F true (r ++ 13 :: 10 :: rest) = stuff r ++ 13 :: 10 :: sub1F true rest := by
  cases r with
  | nil => rfl
  | cons c r =>
    have h' := h
    simp only [plainRow, List.all_cons, Bool.and_eq_true, Bool.not_eq_true'] at h'
    have ih := sub1_row r rest h'.2
    have hc := h'.1
    simp only [isEol, Bool.or_eq_false_iff] at hc
    cases h46 : (c == 46) with
    | true =>
      have := eq_of_beq h46
      subst this
      show sub1F true (46 :: (r ++ 13 :: 10 :: rest)) = _
      simp only [sub1F, stuff]
      show 46 :: 46 :: sub1F false (r ++ 13 :: 10 :: rest) = _
      rw [ih]; rfl
    | false =>
      have hs : stuff (c :: r) = c :: r := by
        unfold stuff
        split
        · rename_i hh; cases hh; cases h46
        · rfl
      rw [hs]
      show sub1F true (c :: (r ++ 13 :: 10 :: rest)) = _
      simp only [sub1F, h46, Bool.and_false, hc.1]
      rw [ih]; rfl
theorem sub1_lines : ∀ (rows : List (List Nat)), rows.all plainRow = true → sub1F true (linesL rows) = linesL (rows.map stuff)
  | [], _ => rfl
  | r :: rows, h => by
    simp only [List.all_cons, Bool.and_eq_true] at h
    have e : linesL (r :: rows) = r ++ 13 :: 10 :: linesL rows := by simp [linesL]
    rw [e, sub1_line r _ h.1, sub1_lines rows h.2]
    simp [linesL]
/-- what is sent of rows and ends -/
theorem quote_rows {rows : List (List Nat × Nat)} (h : rows.all (fun p => goodRow p.1) = true) (hl : (sentL rows).length ≤ 100000) : F_quote [tx (sentL rows)] = some (tx (linesL ((rows.map (·.1)).map stuff))) := by
  rw [quote_is hl, sub2_sent rows h, sub1_lines]
  rw [List.all_map]
  rw [List.all_eq_true] at h ⊢
  exact fun p hp => good_plain (h p hp)
end Mine
end

section
open PySem PySem.W PyProof.Rows PySem.Builtin
set_option Elab.async false
set_option autoImplicit false
set_option linter.unusedVariables false
set_option linter.unusedSimpArgs false
set_option maxRecDepth 100000
namespace Mine
/- the first sign of a row, dots left aside -/
noncomputable def signL : List Nat → Nat
  | [] => 114
  | c :: l => match Nat.beq c 46 with
    | true => signL l
    | false => c
theorem drop_takeW (p : Nat → Bool) : ∀ l : List Nat, l.drop (l.takeWhile p).length = l.dropWhile p
  | [] => rfl
  | a :: l => by
    rw [List.takeWhile_cons, List.dropWhile_cons]
    cases p a with
    | true => simp [drop_takeW p l]
    | false => simp
theorem lstrip_is (l : List Nat) : Txt.lstripChars ⟨l.toArray⟩ (Str.ofString ".") = ⟨(l.dropWhile fun c => Nat.beq c 46).toArray⟩ := by
  have e0 : (Str.ofString ".").cps.contains = fun c => Nat.beq c 46 := by
    rw [S_dot]
    funext c
    show (#[46] : Array Nat).contains c = _
    simp
    cases h : Nat.beq c 46 with
    | true => exact decide_eq_true (Nat.eq_of_beq_eq_true h)
    | false => exact decide_eq_false (Nat.ne_of_beq_eq_false h)
  unfold Txt.lstripChars
  rw [PyProof.Rows.stripBy_eq, e0]
  apply ext_str
  unfold Builtin.Str.strSub stripLo stripHi
  show (Array.extract l.toArray _ _).toList = _
  rw [Array.toList_extract]
  simp only [if_true, Bool.false_eq_true, if_false]
  rw [← drop_takeW]
  show ((l.drop _).take _) = _
  exact List.take_of_length_le (by simp [Str.length])
theorem sign_is (l : List Nat) : ((l.dropWhile fun c => Nat.beq c 46) ++ [114])[0]? = some (signL l) := by
  induction l with
  | nil => rfl
  | cons a l ih =>
    rw [List.dropWhile_cons]
    unfold signL
    cases h : Nat.beq a 46 with
    | true => simpa using ih
    | false => simp
theorem signE (l : List Nat) (hl : l.length ≤ 1000) (d : Den) (ρ : List Slot) (h : d ρ = some (tx l)) : dItem (dBin fAddS (dMeth isS fLstrip d (dCons (fun _ => some (.str (Str.ofString "."))) dNil)) (fun _ => some (.str (Str.ofString "r")))) (fun _ => some (.int (0))) ρ = some (ch (signL l)) := by
  have hlen : (l.dropWhile fun c => Nat.beq c 46).length ≤ 1000 := Nat.le_trans (List.dropWhile_suffix _).length_le hl
  have e1 : fLstrip [tx l, .str (Str.ofString ".")] = some (tx (l.dropWhile fun c => Nat.beq c 46)) := by
    unfold fLstrip
    dsimp only
    have : small (⟨l.toArray⟩ : Str).length = true := Nat.ble_eq.mpr (by show l.toArray.size ≤ _; simp; exact Nat.le_trans ‹_› (by decide))
    rw [this, lstrip_is]
  have e2 : fAddS (tx (l.dropWhile fun c => Nat.beq c 46)) (.str (Str.ofString "r")) = some (tx ((l.dropWhile fun c => Nat.beq c 46) ++ [114])) := by
    rw [S_r]
    unfold fAddS
    dsimp only
    have : Nat.ble ((⟨(l.dropWhile fun c => Nat.beq c 46).toArray⟩ : Str).length + (⟨#[114]⟩ : Str).length) 16777216 = true := Nat.ble_eq.mpr (by show (l.dropWhile fun c => Nat.beq c 46).toArray.size + 1 ≤ _; simp; exact Nat.le_trans ‹_› (by decide))
    rw [this]
    dsimp only
    congr 2
    apply ext_str
    rw [str_add]
  refine (dItem_of ((dBin_of ((dMeth_of h rfl (dOne_of rfl)).trans e1) rfl).trans e2) rfl).trans ?_
  have hs := sign_is l
  show (match ((⟨((l.dropWhile fun c => Nat.beq c 46) ++ [114]).toArray⟩ : Str)).cps[0]? with
      | some c => some (PV.str ⟨#[c]⟩)
      | none => none) = _
  have : ((⟨((l.dropWhile fun c => Nat.beq c 46) ++ [114]).toArray⟩ : Str)).cps[0]? = some (signL l) := by
    show (((l.dropWhile fun c => Nat.beq c 46) ++ [114]).toArray)[0]? = _
    rw [List.getElem?_toArray, hs]
  rw [this]
/- the share of a colour -/
noncomputable def goodP (a b c : Nat) : Bool := Nat.blt 0 a && (Nat.ble a 3 && (Nat.ble b a && (Nat.ble c a && !(Nat.beq b a && Nat.beq c a))))
noncomputable def evenS (a b c : Nat) : List Nat := match Nat.beq a b with
  | true => [103]
  | false => match Nat.beq a c with
    | true => [98]
    | false => []
noncomputable def isTx (o : Option PV) (l : List Nat) : Bool := match o with
  | some (.str x) => x.cps.toList == l
  | _ => false
theorem isTx_is {o : Option PV} {l : List Nat} (h : isTx o l = true) : o = some (tx l) := by
  unfold isTx at h
  split at h
  · rename_i x
    rw [ext_str (eq_of_beq h)]
  · cases h
noncomputable def evenRow (a b : Nat) : Bool := (List.range 4).all fun c => !goodP a b c || (List.range 9).all fun t => isTx (F_even [cN [a, b, c], nI t]) (evenS a b c)
theorem ev10 : evenRow 1 0 = true := by decide +kernel
theorem ev11 : evenRow 1 1 = true := by decide +kernel
theorem ev20 : evenRow 2 0 = true := by decide +kernel
theorem ev21 : evenRow 2 1 = true := by decide +kernel
theorem ev22 : evenRow 2 2 = true := by decide +kernel
theorem ev30 : evenRow 3 0 = true := by decide +kernel
theorem ev31 : evenRow 3 1 = true := by decide +kernel
theorem ev32 : evenRow 3 2 = true := by decide +kernel
theorem ev33 : evenRow 3 3 = true := by decide +kernel
theorem even_row (a b : Nat) (h0 : 0 < a) (h1 : a ≤ 3) (h2 : b ≤ a) : evenRow a b = true := by
  match a, b, h0, h1, h2 with
  | 1, 0, _, _, _ => exact ev10
  | 1, 1, _, _, _ => exact ev11
  | 2, 0, _, _, _ => exact ev20
  | 2, 1, _, _, _ => exact ev21
  | 2, 2, _, _, _ => exact ev22
  | 3, 0, _, _, _ => exact ev30
  | 3, 1, _, _, _ => exact ev31
  | 3, 2, _, _, _ => exact ev32
  | 3, 3, _, _, _ => exact ev33
  | 1, b + 2, _, _, h => rfl
  | 2, b + 3, _, _, h => rfl
  | 3, b + 4, _, _, h => rfl
  | a + 4, _, _, h, _ => rfl
theorem even_is {a b c t : Nat} (h : goodP a b c = true) (ht : t < 9) : F_even [cN [a, b, c], nI t] = some (tx (evenS a b c)) := by
  have h' := h
  simp only [goodP, Bool.and_eq_true] at h
  obtain ⟨h1, h2, h3, h4, _⟩ := h
  have h1 := Nat.blt_eq.mp h1
  have h2 := Nat.le_of_ble_eq_true h2
  have h3 := Nat.le_of_ble_eq_true h3
  have h4 := Nat.le_of_ble_eq_true h4
  have hr := even_row a b h1 h2 h3
  unfold evenRow at hr
  have hc := List.all_eq_true.mp hr c (List.mem_range.mpr (by lia))
  rw [h'] at hc
  simp only [Bool.not_true, Bool.false_or] at hc
  exact isTx_is (List.all_eq_true.mp hc t (List.mem_range.mpr ht))
/- the next sign -/
noncomputable def one (s c : Nat) : Nat := match Nat.beq s c with
  | true => 1
  | false => 0
noncomputable def nextGo (heard : List (List Nat)) (place n : Nat) : List Nat → Nat → Nat → Nat → Option (List Nat × Nat)
  | [], _, _, _ => some ([45], place)
  | step :: l, a, b, c => match signL (heard.getD ((place + step) % n) []) with
    | s => match goodP (a + one s 114) (b + one s 103) (c + one s 98) with
      | true => match evenS (a + one s 114) (b + one s 103) (c + one s 98) with
        | [] => nextGo heard place n l (a + one s 114) (b + one s 103) (c + one s 98)
        | x :: xs => some (x :: xs, (place + step) % n)
      | false => none
theorem parts_is (x0 x1 x3 x4 x6 : Slot) (a b c s : Nat) : C_next_1 [x0, x1, .val (cN [a, b, c]), x3, x4, .val (ch s), x6] = some (cN [a + one s 114, b + one s 103, c + one s 98]) := by
  have el : sRange1 (fun _ => some (.int (3))) [x0, x1, .val (cN [a, b, c]), x3, x4, .val (ch s), x6] = some [nI 0, nI 1, nI 2] := rfl
  have key : ∀ (k v q : Nat) (y : Slot), [a, b, c][k]? = some v → [114, 103, 98][k]? = some q → k < 3 →
      (dBin fAddI (dItem (dName 1) (dName 0)) (dIf (dCmp cEqS (dName 2) (dItem (fun _ => some (.str (Str.ofString "rgb"))) (dName 0))) (fun _ => some (.int (1))) (fun _ => some (.int (0))))) [.val (nI k), .val (cN [a, b, c]), .val (ch s)] = some (nI (v + one s q)) := by
    intro k v q y h1 h2 hk
    have hb : Nat.blt k 16777217 = true := Nat.blt_eq.mpr (by exact Nat.lt_of_lt_of_le ‹_› (by decide))
    have i1 : fItem (cN [a, b, c]) (nI k) = some (nI v) := by
      simp only [fItem, hb, List.getElem?_map, h1, Option.map_some]
    have i2 : fItem (.str (Str.ofString "rgb")) (nI k) = some (ch q) := by
      rw [S_rgb]
      simp only [fItem, hb]
      have : (#[114, 103, 98] : Array Nat)[k]? = some q := by rw [← h2]; simp
      rw [this]
    refine (dBin_of ((dItem_of rfl rfl).trans i1) (dIf_of (r := some (nI (one s q))) ((dCmp_of rfl ((dItem_of rfl rfl).trans i2)).trans (cEq_ch _ _)) (fun h => ?_) fun h => ?_)).trans rfl
    · unfold one; rw [h]; rfl
    · unfold one; rw [h]; rfl
  unfold C_next_1
  refine dComp_of el (by decide) (compD_cons (ρ₁ := [.val (nI 0), .val (cN [a, b, c]), .val (ch s)]) (b := true) rfl rfl (fun _ => key 0 a 114 .unset rfl rfl (by exact Nat.succ_pos _))
    (compD_cons (ρ₁ := [.val (nI 1), .val (cN [a, b, c]), .val (ch s)]) (b := true) rfl rfl (fun _ => key 1 b 103 .unset rfl rfl (by exact Nat.le_succ _))
    (compD_cons (ρ₁ := [.val (nI 2), .val (cN [a, b, c]), .val (ch s)]) (b := true) rfl rfl (fun _ => key 2 c 98 .unset rfl rfl (by exact Nat.lt_succ_self _)) rfl)))
theorem item_R {w : List (List Nat)} {k : Nat} (h : k < w.length) (hl : w.length < 1000) : fItem (cR w) (nI k) = some (tx (w.getD k [])) := by
  have hb : Nat.blt k 16777217 = true := Nat.blt_eq.mpr (by lia)
  simp only [fItem, hb, List.getElem?_map, List.getElem?_eq_getElem h, Option.map_some, List.getD_eq_getElem?_getD, Option.getD_some]
theorem getD_mem {α : Type} {l : List α} {k : Nat} {d : α} (h : k < l.length) : l.getD k d ∈ l := by
  rw [List.getD_eq_getElem?_getD, List.getElem?_eq_getElem h]
  exact List.getElem_mem h
theorem modN {a n : Nat} (h : 0 < n) : fModI (nI a) (nI n) = some (nI (a % n)) := by
  have : ∀ i : Int, fModI (.int i) (nI n) = some (.int (i.fmod (Int.ofNat n))) := fun i => by
    cases n with
    | zero => lia
    | succ n => rfl
  rw [this]
  congr 2
  exact (Int.ofNat_fmod a n).symm
theorem S_nil : Str.ofString "" = ⟨#[]⟩ := by decide +kernel
theorem S_dash : Str.ofString "-" = ⟨#[45]⟩ := by decide +kernel
theorem next_go {heard : List (List Nat)} {place : Nat} (hh : heard.length < 900) (h0 : 0 < heard.length) (hrow : ∀ r ∈ heard, r.length ≤ 1000) (hp : place < 9) : ∀ (l : List Nat) (a b c : Nat) (x3 x4 x5 x6 : Slot) (sh : List Nat) (last : Nat), nextGo heard place heard.length l a b c = some (sh, last) →
    ∃ f y2 y3 y4 y5 y6, forD (uName 3) B_next_1 (l.map nI) [.val (cR heard), .val (nI place), .val (cN [a, b, c]), x3, x4, x5, x6] = some (f, [.val (cR heard), .val (nI place), y2, y3, y4, y5, y6]) ∧ (f = .ret (.tup [tx sh, nI last]) ∨ (f = .next ∧ sh = [45] ∧ last = place))
  | [], a, b, c, x3, x4, x5, x6, sh, last, h => by
    simp only [nextGo] at h
    cases h
    exact ⟨.next, _, x3, x4, x5, x6, rfl, .inr ⟨rfl, rfl, rfl⟩⟩
  | step :: l, a, b, c, x3, x4, x5, x6, sh, last, h => by
    simp only [nextGo] at h
    have hm : (place + step) % heard.length < heard.length := Nat.mod_lt _ h0
    generalize hq : (place + step) % heard.length = q at h hm
    generalize hs : signL (heard.getD q []) = s at h
    cases hg : goodP (a + one s 114) (b + one s 103) (c + one s 98) with
    | false => rw [hg] at h; cases h
    | true =>
      rw [hg] at h
      dsimp only at h
      have e4 : dBin fModI (dBin fAddI (dName 1) (dName 3)) (dCall fLen (dCons (dName 0) dNil)) [.val (cR heard), .val (nI place), .val (cN [a, b, c]), .val (nI step), x4, x5, x6] = some (nI q) := by
        refine (dBin_of (p := nI (place + step)) ((dBin_of rfl rfl).trans rfl) ((dCall_of (dOne_of rfl)).trans ((fLen_L (by rw [List.length_map]; exact Nat.le_of_lt (Nat.lt_of_lt_of_le ‹_› (by decide)))).trans (by rw [List.length_map])))).trans ?_
        rw [modN h0, hq]
      have e5 := signE (heard.getD q []) (hrow _ (getD_mem hm)) (dItem (dName 0) (dName 4)) [.val (cR heard), .val (nI place), .val (cN [a, b, c]), .val (nI step), .val (nI q), x5, x6] ((dItem_of rfl rfl).trans (item_R hm (by exact Nat.lt_of_lt_of_le ‹_› (by decide))))
      rw [hs] at e5
      have e6 : dCall F_even (dCons (dName 2) (dCons (dName 1) dNil)) [.val (cR heard), .val (nI place), .val (cN [a + one s 114, b + one s 103, c + one s 98]), .val (nI step), .val (nI q), .val (ch s), x6] = some (tx (evenS (a + one s 114) (b + one s 103) (c + one s 98))) :=
        (dCall_of (dCons_of rfl (dOne_of rfl))).trans (even_is hg hp)
      generalize hz : evenS (a + one s 114) (b + one s 103) (c + one s 98) = z at h e6
      have eN : dCmp cNeS (dName 6) (fun _ => some (.str (Str.ofString ""))) [.val (cR heard), .val (nI place), .val (cN [a + one s 114, b + one s 103, c + one s 98]), .val (nI step), .val (nI q), .val (ch s), .val (tx z)] = some (match z with | [] => false | _ => true) := by
        refine (dCmp_of rfl rfl).trans ?_
        rw [S_nil]
        cases z with
        | nil => rfl
        | cons x xs => 
          show some ((⟨(x :: xs).toArray⟩ : Str) != ⟨#[]⟩) = some true
          congr 1
      rw [List.map_cons]
      simp only [forD]
      have eu : uName 3 [.val (cR heard), .val (nI place), .val (cN [a, b, c]), x3, x4, x5, x6] (nI step) = some [.val (cR heard), .val (nI place), .val (cN [a, b, c]), .val (nI step), x4, x5, x6] := rfl
      rw [eu]
      dsimp only
      cases z with
      | nil =>
        have eb : B_next_1 [.val (cR heard), .val (nI place), .val (cN [a, b, c]), .val (nI step), x4, x5, x6] = some (.next, [.val (cR heard), .val (nI place), .val (cN [a + one s 114, b + one s 103, c + one s 98]), .val (nI step), .val (nI q), .val (ch s), .val (tx [])]) := by
          unfold B_next_1
          exact dSeq_of (dSet_of e4) (dSeq_of (dSet_of e5) (dSeq_of (dSet_of (parts_is ..)) (dSeq_of (dSet_of e6) (dSeq_of (dIfS_of eN (fun q => by cases q) fun _ => rfl) rfl))))
        rw [eb]
        dsimp only at h ⊢
        exact next_go hh h0 hrow hp l _ _ _ _ _ _ _ sh last h
      | cons x xs =>
        dsimp only at h
        cases h
        have eb : B_next_1 [.val (cR heard), .val (nI place), .val (cN [a, b, c]), .val (nI step), x4, x5, x6] = some (.ret (.tup [tx (x :: xs), nI last]), [.val (cR heard), .val (nI place), .val (cN [a + one s 114, b + one s 103, c + one s 98]), .val (nI step), .val (nI last), .val (ch s), .val (tx (x :: xs))]) := by
          unfold B_next_1
          refine dSeq_of (dSet_of e4) (dSeq_of (dSet_of e5) (dSeq_of (dSet_of (parts_is ..)) (dSeq_of (dSet_of e6) (dSeq_ret (dIfS_of eN (fun _ => dSeq_ret (dRet_of ?_)) fun q => by cases q)))))
          exact dTup_of (dCons_of rfl (dOne_of rfl)) (Nat.le_of_ble_eq_true rfl)
        rw [eb]
        exact ⟨_, _, _, _, _, _, rfl, .inl rfl⟩
noncomputable def nextL (heard : List (List Nat)) (place : Nat) : Option (List Nat × Nat) := nextGo heard place heard.length (List.range heard.length) 0 0 0
theorem upTo_N : ∀ (k a : Nat), upTo k (Int.ofNat a) = (List.range' a k).map nI
  | 0, a => rfl
  | k + 1, a => by
    rw [List.range'_succ, List.map_cons]
    show PV.int (Int.ofNat a) :: upTo k (Int.ofNat a + 1) = _
    have : (Int.ofNat a + 1) = Int.ofNat (a + 1) := rfl
    rw [this, upTo_N k (a + 1)]
theorem rangeI_N {n : Nat} (h : n < 1000000) : rangeI 0 (Int.ofNat n) = some ((List.range n).map nI) := by
  unfold rangeI
  have h1 : okR 0 = true := rfl
  have h2 : okR (Int.ofNat n) = true := Nat.blt_eq.mpr h
  rw [h1, h2]
  dsimp only
  have : (Int.ofNat n - 0).toNat = n := by show ((n : Int) - 0).toNat = n; rfl
  rw [this]
  have e := upTo_N n 0
  rw [List.range_eq_range', ← e]
  rfl
theorem next_is {heard : List (List Nat)} {place last : Nat} {sh : List Nat} (hh : heard.length < 900) (h0 : 0 < heard.length) (hrow : ∀ r ∈ heard, r.length ≤ 1000) (hp : place < 9) (h : nextL heard place = some (sh, last)) : F_next [cR heard, nI place] = some (.tup [tx sh, nI last]) := by
  obtain ⟨f, y2, y3, y4, y5, y6, hl, hf⟩ := next_go hh h0 hrow hp (List.range heard.length) 0 0 0 .unset .unset .unset .unset sh last h
  unfold F_next callDef
  show (match D_next [.val (cR heard), .val (nI place), .unset, .unset, .unset, .unset, .unset] with | some (.ret p, _) => some p | some (.next, _) => some .none | _ => none) = _
  have : ∃ ρ', D_next [.val (cR heard), .val (nI place), .unset, .unset, .unset, .unset, .unset] = some (.ret (.tup [tx sh, nI last]), ρ') := by
    have es : sRange1 (dCall fLen (dCons (dName 0) dNil)) [.val (cR heard), .val (nI place), .val (cN [0, 0, 0]), .unset, .unset, .unset, .unset] = some ((List.range heard.length).map nI) := by
      have : dCall fLen (dCons (dName 0) dNil) [.val (cR heard), .val (nI place), .val (cN [0, 0, 0]), .unset, .unset, .unset, .unset] = some (nI heard.length) := (dCall_of (dOne_of rfl)).trans ((fLen_L (by rw [List.length_map]; exact Nat.le_of_lt (Nat.lt_of_lt_of_le ‹_› (by decide)))).trans (by rw [List.length_map]))
      unfold sRange1
      rw [this]
      exact rangeI_N (by exact Nat.lt_of_lt_of_le ‹_› (by decide))
    have hF : dFor (sRange1 (dCall fLen (dCons (dName 0) dNil))) (uName 3) B_next_1 [.val (cR heard), .val (nI place), .val (cN [0, 0, 0]), .unset, .unset, .unset, .unset] = some (f, [.val (cR heard), .val (nI place), y2, y3, y4, y5, y6]) := (dFor_of es).trans hl
    rcases hf with rfl | ⟨rfl, rfl, rfl⟩
    · refine ⟨[.val (cR heard), .val (nI place), y2, y3, y4, y5, y6], ?_⟩
      unfold D_next
      refine dSeq_of (ρ' := [.val (cR heard), .val (nI place), .own [nI 0, nI 0, nI 0], .unset, .unset, .unset, .unset]) rfl ?_
      exact dSeq_ret hF
    · refine ⟨[.val (cR heard), .val (nI last), y2, y3, y4, y5, y6], ?_⟩
      unfold D_next
      refine dSeq_of (ρ' := [.val (cR heard), .val (nI last), .own [nI 0, nI 0, nI 0], .unset, .unset, .unset, .unset]) rfl ?_
      refine dSeq_of hF (dSeq_ret (dRet_of ?_))
      refine dTup_of (dCons_of ?_ (dOne_of rfl)) (Nat.le_of_ble_eq_true rfl)
      rw [S_dash]
  obtain ⟨ρ', e⟩ := this
  rw [e]
end Mine
end

section
open PySem PySem.W PyProof.Rows PySem.Builtin
set_option Elab.async false
set_option autoImplicit false
set_option linter.unusedVariables false
set_option linter.unusedSimpArgs false
set_option maxRecDepth 100000
namespace Mine
noncomputable abbrev tp (p : Nat × Nat) : PV := .tup [nI p.1, nI p.2]
noncomputable abbrev cT (l : List (Nat × Nat)) : PV := .list (l.map tp)
/- pairs compared -/
theorem okT_can : ∀ l : List (Nat × Nat), PyData.canLayAll0 (toPys (l.map tp)) = true
  | [] => by simp [toPys, PyData.canLayAll0]
  | a :: l => by simp [toPys, toPy, PyData.canLayAll0, PyData.canLay0, okT_can l]
theorem okT_depth : ∀ l : List (Nat × Nat), PyData.depthAll (toPys (l.map tp)) ≤ 1
  | [] => by simp [toPys, PyData.depthAll]
  | a :: l => by
    have := okT_depth l
    simp only [List.map_cons, toPys, toPy, PyData.depthAll, PyData.depth]
    simp
    omega
theorem okT_flt : ∀ l : List (Nat × Nat), noFlts (l.map tp) = true
  | [] => by simp [noFlts]
  | a :: l => by simp [noFlts, noFlt, okT_flt l]
theorem okD_T (l : List (Nat × Nat)) : okD (cT l) = true := by
  have h1 := okT_depth l
  simp only [okD, noFlt, okT_flt, Bool.true_and, SeqAt.shaped, toPy, PyData.canLay0, okT_can, PyData.depth, decide_eq_true_eq]
  exact Nat.lt_of_le_of_lt ‹_› (by decide)
theorem eqv_nilT (l : List (Nat × Nat)) : PyData.eqv (toPy (cT l)) (toPy (.list [])) = l.isEmpty := by
  cases l with
  | nil => simp [toPy, toPys, PyData.eqv, PyData.eqvAll]
  | cons a l => simp [toPy, toPys, PyData.eqv, PyData.eqvAll]
theorem okD_nil : okD (.list []) = true := okD_T []
theorem cEqL_nil (l : List (Nat × Nat)) : cEqL (cT l) (.list []) = some l.isEmpty := by
  unfold cEqL; rw [okD_T, okD_nil]; dsimp only; rw [eqv_nilT]
theorem cNeL_nil (l : List (Nat × Nat)) : cNeL (cT l) (.list []) = some (!l.isEmpty) := by
  unfold cNeL; rw [cEqL_nil]
/- the greatest pair -/
noncomputable def gtT (x y : Nat × Nat) : Bool := match Nat.beq x.1 y.1 with
  | true => Nat.blt y.2 x.2
  | false => Nat.blt y.1 x.1
noncomputable def maxT : (Nat × Nat) → List (Nat × Nat) → Nat × Nat
  | a, [] => a
  | a, b :: l => match gtT b a with
    | true => maxT b l
    | false => maxT a l
noncomputable def cI (p : Nat × Nat) : Int × Int := (Int.ofNat p.1, Int.ofNat p.2)
theorem deceq_I (a b : Nat) : decide (Int.ofNat a = Int.ofNat b) = Nat.beq a b := by
  cases h : Nat.beq a b with
  | true => exact decide_eq_true (congrArg _ (Nat.eq_of_beq_eq_true h))
  | false => exact decide_eq_false (fun e => Nat.ne_of_beq_eq_false h (Int.ofNat.inj e))
theorem gt_is (x y : Nat × Nat) : gtPair (cI x).1 (cI x).2 (cI y).1 (cI y).2 = gtT x y := by
  unfold gtPair gtT cI
  dsimp only
  first
  | (rw [deceq_I, blt_I, blt_I]; done)
  | (rw [deceq_I, blt_I, blt_I]; cases Nat.beq x.1 y.1 <;> rfl)
theorem maxP_is : ∀ (l : List (Nat × Nat)) (a : Nat × Nat), maxP (cI a) (l.map cI) = cI (maxT a l)
  | [], a => rfl
  | b :: l, a => by
    simp only [List.map_cons, maxP, maxT]
    rw [gt_is]
    cases gtT b a with
    | true => exact maxP_is l b
    | false => exact maxP_is l a
theorem pairs_T : ∀ l : List (Nat × Nat), pairsOf (l.map tp) = some (l.map cI)
  | [] => rfl
  | a :: l => by
    simp only [List.map_cons, pairsOf, pairOf, pairs_T l]
    rfl
theorem fMax_T (a : Nat × Nat) (l : List (Nat × Nat)) : fMax [cT (a :: l)] = some (tp (maxT a l)) := by
  unfold fMax cT
  dsimp only
  unfold max1
  dsimp only
  rw [pairs_T (a :: l), List.map_cons]
  dsimp only
  rw [maxP_is]
  rfl
noncomputable def minN : Nat → List Nat → Nat
  | a, [] => a
  | a, b :: l => match Nat.blt b a with
    | true => minN b l
    | false => minN a l
theorem minL_N : ∀ (l : List Nat) (a : Nat), minL (Int.ofNat a) (l.map Int.ofNat) = Int.ofNat (minN a l)
  | [], a => rfl
  | b :: l, a => by
    simp only [List.map_cons, minL, minN]
    rw [blt_I]
    cases Nat.blt b a with
    | true => exact minL_N l b
    | false => exact minL_N l a
theorem fMin_N (a : Nat) (l : List Nat) : fMin [cN (a :: l)] = some (nI (minN a l)) := by
  unfold fMin cN
  dsimp only
  unfold min1
  dsimp only
  rw [ints_N (a :: l), List.map_cons]
  dsimp only
  rw [minL_N]
/- the way's lists -/
theorem item_T0 (p : Nat × Nat) : fItem (tp p) (.int 0) = some (nI p.1) := rfl
theorem item_T1 (p : Nat × Nat) : fItem (tp p) (.int 1) = some (nI p.2) := rfl
theorem item_L0 (a : PV) (l : List PV) : fItem (.list (a :: l)) (.int 0) = some a := rfl
noncomputable def own1 (own : List (Nat × Nat)) (place : Nat) : List (Nat × Nat) := own.filter fun t => Nat.beq t.2 place
noncomputable def crossL (others : List (Nat × Nat)) (bound first last : Nat) : List (Nat × Nat) := others.filter fun t => (Nat.blt first t.1 && Nat.blt t.1 bound) && Nat.blt last t.2
noncomputable def headL (others : List (Nat × Nat)) (first : Nat) : List (Nat × Nat) := others.filter fun t => Nat.beq t.1 first
noncomputable def backL (own : List (Nat × Nat)) (over : Nat × Nat) (past : Nat) : List (Nat × Nat) := own.filter fun t => Nat.blt t.1 over.1 && (Nat.blt past t.2 && Nat.blt t.2 over.2)
theorem comp_T {src : Dens} {k : Nat} {caps : List Nat} {t : DenB} {d : Den} {ρ : List Slot} {l : List (Nat × Nat)} (bf : Nat × Nat → Bool) (qf : Nat × Nat → PV) (cs : List Slot) (hs : src ρ = some (l.map tp)) (hl : l.length ≤ 1000) (hst : ∃ x, startC k caps ρ = x :: cs)
    (ht : ∀ a, t (.val (tp a) :: cs) = some (bf a)) (hd : ∀ a, bf a = true → d (.val (tp a) :: cs) = some (qf a)) : dComp src k caps (uName 0) t d ρ = some (.list ((l.filter bf).map qf)) := by
  refine dComp_of hs (by rw [List.length_map]; exact Nat.le_trans ‹_› (by decide)) ?_
  refine compD_all tp bf qf (fun ρ' => ∃ x, ρ' = x :: cs) l (fun a _ ρ' hρ => ?_) _ hst
  obtain ⟨x, rfl⟩ := hρ
  exact ⟨.val (tp a) :: cs, rfl, ⟨_, rfl⟩, ht a, hd a⟩
section
variable {own others : List (Nat × Nat)} {place first last bound past : Nat} {over : Nat × Nat} {x2 x3 x4 x5 x6 x7 x8 x9 x10 : Slot}
theorem way1 (hl : own.length ≤ 1000) : C_way_1 [.val (cT own), .val (cT others), .val (nI place), x3, x4, x5, x6, x7, x8, x9, x10] = some (cT (own1 own place)) := by
  unfold C_way_1
  exact comp_T (fun t => Nat.beq t.2 place) tp [.val (nI place)] rfl hl ⟨_, rfl⟩ (fun a => (dCmp_of ((dItem_of rfl rfl).trans (item_T1 a)) rfl).trans (cEq_N _ _)) fun a _ => rfl
theorem way2 (hl : others.length ≤ 1000) : C_way_2 [.val (cT own), .val (cT others), x2, .val (nI first), .val (nI last), .val (nI bound), x6, x7, x8, x9, x10] = some (cT (crossL others bound first last)) := by
  unfold C_way_2
  exact comp_T (fun t => (Nat.blt first t.1 && Nat.blt t.1 bound) && Nat.blt last t.2) tp [.val (nI bound), .val (nI first), .val (nI last)] rfl hl ⟨_, rfl⟩ (fun a => dAnd_of (dCmp2_of rfl ((dItem_of rfl rfl).trans (item_T0 a)) rfl (cLt_N _ _) (cLt_N _ _)) ((dCmp_of rfl ((dItem_of rfl rfl).trans (item_T1 a))).trans (cLt_N _ _))) fun a _ => rfl
theorem way3 (hl : others.length ≤ 1000) : C_way_3 [.val (cT own), .val (cT others), x2, .val (nI first), x4, x5, x6, x7, x8, x9, x10] = some (cT (headL others first)) := by
  unfold C_way_3
  exact comp_T (fun t => Nat.beq t.1 first) tp [.val (nI first)] rfl hl ⟨_, rfl⟩ (fun a => (dCmp_of ((dItem_of rfl rfl).trans (item_T0 a)) rfl).trans (cEq_N _ _)) fun a _ => rfl
theorem way4 (hl : own.length ≤ 1000) : C_way_4 [.val (cT own), .val (cT others), x2, x3, x4, x5, x6, x7, .val (tp over), .val (nI past), x10] = some (cT (backL own over past)) := by
  unfold C_way_4
  exact comp_T (fun t => Nat.blt t.1 over.1 && (Nat.blt past t.2 && Nat.blt t.2 over.2)) tp [.val (tp over), .val (nI past)] rfl hl ⟨_, rfl⟩ (fun a => dAnd_of ((dCmp_of ((dItem_of rfl rfl).trans (item_T0 a)) ((dItem_of rfl rfl).trans (item_T0 over))).trans (cLt_N _ _)) (dCmp2_of rfl ((dItem_of rfl rfl).trans (item_T1 a)) ((dItem_of rfl rfl).trans (item_T1 over)) (cLt_N _ _) (cLt_N _ _))) fun a _ => rfl
theorem way5 {back : List (Nat × Nat)} {x0 x1 : Slot} (hl : back.length ≤ 1000) : C_way_5 [x0, x1, x2, x3, x4, x5, x6, x7, x8, x9, .val (cT back)] = some (cN (back.map (·.2))) := by
  unfold C_way_5
  refine (comp_T (fun _ => true) (fun a => nI a.2) [] rfl hl ⟨_, rfl⟩ (fun a => rfl) fun a _ => (dItem_of rfl rfl).trans (item_T1 a)).trans ?_
  rw [List.filter_eq_self.mpr (fun _ _ => rfl)]
  unfold cN
  rw [List.map_map]
  rfl
theorem way6 {back : List (Nat × Nat)} {x0 x1 : Slot} (hl : back.length ≤ 1000) : C_way_6 [x0, x1, x2, x3, .val (nI last), x5, x6, x7, x8, x9, .val (cT back)] = some (cN ((own1 back last).map (·.1))) := by
  unfold C_way_6
  refine (comp_T (fun t => Nat.beq t.2 last) (fun a => nI a.1) [.val (nI last)] rfl hl ⟨_, rfl⟩ (fun a => (dCmp_of ((dItem_of rfl rfl).trans (item_T1 a)) rfl).trans (cEq_N _ _)) fun a _ => (dItem_of rfl rfl).trans (item_T0 a)).trans ?_
  unfold cN own1
  rw [List.map_map]
  rfl
end
noncomputable def wayBack (own : List (Nat × Nat)) (over : Nat × Nat) (past : Nat) (go : Nat → Nat → Nat → Option Nat) : Option Nat := match backL own over past with
  | [] => some over.2
  | b :: bs => match minN b.2 (bs.map (·.2)) with
    | last => match own1 (b :: bs) last with
      | [] => none
      | t :: _ => go t.1 last over.1
noncomputable def wayGo (own others : List (Nat × Nat)) : Nat → Nat → Nat → Nat → Option Nat
  | 0, _, _, _ => none
  | k + 1, first, last, bound => match crossL others bound first last with
    | c :: cs => wayBack own (maxT c cs) last (wayGo own others k)
    | [] => match headL others first with
      | [] => none
      | over :: _ => match Nat.blt over.2 last with
        | true => some first
        | false => wayBack own over first (wayGo own others k)
noncomputable def wayL (own others : List (Nat × Nat)) (place : Nat) : Option Nat := match own1 own place with
  | [] => none
  | t :: _ => wayGo own others 20 t.1 t.2 t.2
theorem filter_len {α : Type} (p : α → Bool) (l : List α) {n : Nat} (h : l.length ≤ n) : (l.filter p).length ≤ n := Nat.le_trans (List.length_filter_le _ _) h
/-- behind the choice of the line that lies over -/
theorem way_tail {own others : List (Nat × Nat)} (hl : own.length ≤ 1000) {over : Nat × Nat} {past : Nat} {x2 x3 x4 x5 x6 x7 x10 : Slot} : 
    (backL own over past = [] → ∃ ρ', (dSeq (dSet 10 C_way_4) (dSeq (dIfS (dCmp cEqL (dName 10) (dList dNil)) (dSeq (dRet (dItem (dName 8) (fun _ => some (.int (1))))) dDone) dDone) (dSeq (dSet 4 (dCall fMin (dCons C_way_5 dNil))) (dSeq (dSet 3 (dItem C_way_6 (fun _ => some (.int (0))))) (dSeq (dSet 5 (dItem (dName 8) (fun _ => some (.int (0))))) dDone)))))
      [.val (cT own), .val (cT others), x2, x3, x4, x5, x6, x7, .val (tp over), .val (nI past), x10] = some (.ret (nI over.2), ρ')) ∧
    (∀ b bs t ts, backL own over past = b :: bs → own1 (b :: bs) (minN b.2 (bs.map (·.2))) = t :: ts → (dSeq (dSet 10 C_way_4) (dSeq (dIfS (dCmp cEqL (dName 10) (dList dNil)) (dSeq (dRet (dItem (dName 8) (fun _ => some (.int (1))))) dDone) dDone) (dSeq (dSet 4 (dCall fMin (dCons C_way_5 dNil))) (dSeq (dSet 3 (dItem C_way_6 (fun _ => some (.int (0))))) (dSeq (dSet 5 (dItem (dName 8) (fun _ => some (.int (0))))) dDone)))))
      [.val (cT own), .val (cT others), x2, x3, x4, x5, x6, x7, .val (tp over), .val (nI past), x10] = some (.next, [.val (cT own), .val (cT others), x2, .val (nI t.1), .val (nI (minN b.2 (bs.map (·.2)))), .val (nI over.1), x6, x7, .val (tp over), .val (nI past), .val (cT (b :: bs))])) := by
  have ec : ∀ bk, dCmp cEqL (dName 10) (dList dNil) [.val (cT own), .val (cT others), x2, x3, x4, x5, x6, x7, .val (tp over), .val (nI past), .val (cT bk)] = some bk.isEmpty := fun bk => (dCmp_of rfl rfl).trans (cEqL_nil bk)
  refine ⟨fun h => ?_, fun b bs t ts h ht => ?_⟩
  · refine ⟨[.val (cT own), .val (cT others), x2, x3, x4, x5, x6, x7, .val (tp over), .val (nI past), .val (cT [])], dSeq_of (dSet_of (way4 hl)) ?_⟩
    rw [h]
    exact dSeq_ret (dIfS_of (ec []) (fun _ => dSeq_ret (dRet_of ((dItem_of rfl rfl).trans (item_T1 over)))) fun q => by cases q)
  · have hlb : (b :: bs).length ≤ 1000 := by rw [← h]; exact filter_len _ _ hl
    refine dSeq_of (dSet_of (way4 hl)) ?_
    rw [h]
    refine dSeq_of (dIfS_of (ec (b :: bs)) (fun q => by cases q) fun _ => rfl) ?_
    refine dSeq_of (dSet_of ((dCall_of (dOne_of (way5 hlb))).trans (fMin_N _ _))) ?_
    refine dSeq_of (dSet_of ((dItem_of (way6 (last := minN b.2 (bs.map (·.2))) hlb) rfl).trans ?_)) (dSeq_of (dSet_of ((dItem_of rfl rfl).trans (item_T0 over))) rfl)
    rw [ht]
    rfl
theorem way_go {own others : List (Nat × Nat)} {place : Nat} (hl : own.length ≤ 1000) (hl2 : others.length ≤ 1000) : ∀ (l : List Nat) (first last bound r : Nat) (x6 x7 x8 x9 x10 : Slot), wayGo own others l.length first last bound = some r →
    ∃ ρ', forD (uName 6) B_way_1 (l.map nI) [.val (cT own), .val (cT others), .val (nI place), .val (nI first), .val (nI last), .val (nI bound), x6, x7, x8, x9, x10] = some (.ret (nI r), ρ')
  | [], first, last, bound, r, x6, x7, x8, x9, x10, h => by cases h
  | k :: l, first, last, bound, r, x6, x7, x8, x9, x10, h => by
    simp only [List.length_cons, wayGo] at h
    rw [List.map_cons]
    simp only [forD]
    have eu : uName 6 [.val (cT own), .val (cT others), .val (nI place), .val (nI first), .val (nI last), .val (nI bound), x6, x7, x8, x9, x10] (nI k) = some [.val (cT own), .val (cT others), .val (nI place), .val (nI first), .val (nI last), .val (nI bound), .val (nI k), x7, x8, x9, x10] := rfl
    rw [eu]
    dsimp only
    have ew := way2 (own := own) (others := others) (first := first) (last := last) (bound := bound) (x2 := .val (nI place)) (x6 := .val (nI k)) (x7 := x7) (x8 := x8) (x9 := x9) (x10 := x10) hl2
    -- the tail of the turn
    have tail : ∀ (over : Nat × Nat) (past : Nat) (y7 : Slot), wayBack own over past (wayGo own others l.length) = some r →
        dIfS (dCmp cNeL (dName 7) (dList dNil)) (dSeq (dSet 8 (dCall fMax (dCons (dName 7) dNil))) (dSeq (dSet 9 (dName 4)) dDone)) (dSeq (dSet 8 (dItem C_way_3 (fun _ => some (.int (0))))) (dSeq (dSet 9 (dName 3)) (dSeq (dIfS (dCmp cLtI (dItem (dName 8) (fun _ => some (.int (1)))) (dName 4)) (dSeq (dRet (dName 3)) dDone) dDone) dDone)))
          [.val (cT own), .val (cT others), .val (nI place), .val (nI first), .val (nI last), .val (nI bound), .val (nI k), .val (cT (crossL others bound first last)), x8, x9, x10] = some (.next, [.val (cT own), .val (cT others), .val (nI place), .val (nI first), .val (nI last), .val (nI bound), .val (nI k), y7, .val (tp over), .val (nI past), x10]) →
        ∃ ρ', (match B_way_1 [.val (cT own), .val (cT others), .val (nI place), .val (nI first), .val (nI last), .val (nI bound), .val (nI k), x7, x8, x9, x10] with
          | some (f, ρ₂) => match f with
            | .next => forD (uName 6) B_way_1 (l.map nI) ρ₂
            | .cont => forD (uName 6) B_way_1 (l.map nI) ρ₂
            | .brk => some (.next, ρ₂)
            | .ret r => some (.ret r, ρ₂)
          | none => none) = some (.ret (nI r), ρ') := by
      intro over past y7 hb hi
      unfold wayBack at hb
      obtain ⟨t1, t2⟩ := way_tail (own := own) (others := others) hl (over := over) (past := past) (x2 := .val (nI place)) (x3 := .val (nI first)) (x4 := .val (nI last)) (x5 := .val (nI bound)) (x6 := .val (nI k)) (x7 := y7) (x10 := x10)
      cases hbk : backL own over past with
      | nil =>
        rw [hbk] at hb
        cases hb
        obtain ⟨ρ', ht⟩ := t1 hbk
        have e : B_way_1 [.val (cT own), .val (cT others), .val (nI place), .val (nI first), .val (nI last), .val (nI bound), .val (nI k), x7, x8, x9, x10] = some (.ret (nI over.2), ρ') := by
          unfold B_way_1
          exact dSeq_of (dSet_of ew) (dSeq_of hi ht)
        rw [e]
        exact ⟨ρ', rfl⟩
      | cons b bs =>
        rw [hbk] at hb
        dsimp only at hb
        cases ho : own1 (b :: bs) (minN b.2 (bs.map (·.2))) with
        | nil => rw [ho] at hb; cases hb
        | cons t ts =>
          rw [ho] at hb
          dsimp only at hb
          have ht := t2 b bs t ts hbk ho
          have e : B_way_1 [.val (cT own), .val (cT others), .val (nI place), .val (nI first), .val (nI last), .val (nI bound), .val (nI k), x7, x8, x9, x10] = some (.next, [.val (cT own), .val (cT others), .val (nI place), .val (nI t.1), .val (nI (minN b.2 (bs.map (·.2)))), .val (nI over.1), .val (nI k), y7, .val (tp over), .val (nI past), .val (cT (b :: bs))]) := by
            unfold B_way_1
            exact dSeq_of (dSet_of ew) (dSeq_of hi ht)
          rw [e]
          exact way_go hl hl2 l _ _ _ r _ _ _ _ _ hb
    cases hc : crossL others bound first last with
    | cons c cs =>
      rw [hc] at h
      refine tail (maxT c cs) last (.val (cT (c :: cs))) h ?_
      rw [hc]
      refine dIfS_of (b := true) ((dCmp_of rfl rfl).trans (cNeL_nil _)) (fun _ => ?_) fun q => by cases q
      exact dSeq_of (dSet_of ((dCall_of (dOne_of rfl)).trans (fMax_T c cs))) (dSeq_of (dSet_of rfl) rfl)
    | nil =>
      rw [hc] at h
      dsimp only at h
      cases hh : headL others first with
      | nil => rw [hh] at h; cases h
      | cons over os =>
        rw [hh] at h
        dsimp only at h
        have e3 := way3 (own := own) (others := others) (first := first) (x2 := .val (nI place)) (x4 := .val (nI last)) (x5 := .val (nI bound)) (x6 := .val (nI k)) (x7 := .val (cT [])) (x8 := x8) (x9 := x9) (x10 := x10) hl2
        rw [hh] at e3
        have el : dCmp cLtI (dItem (dName 8) (fun _ => some (.int (1)))) (dName 4) [.val (cT own), .val (cT others), .val (nI place), .val (nI first), .val (nI last), .val (nI bound), .val (nI k), .val (cT []), .val (tp over), .val (nI first), x10] = some (Nat.blt over.2 last) := (dCmp_of ((dItem_of rfl rfl).trans (item_T1 over)) rfl).trans (cLt_N _ _)
        cases hb : Nat.blt over.2 last with
        | true =>
          rw [hb] at h el
          cases h
          have e : B_way_1 [.val (cT own), .val (cT others), .val (nI place), .val (nI first), .val (nI last), .val (nI bound), .val (nI k), x7, x8, x9, x10] = some (.ret (nI first), [.val (cT own), .val (cT others), .val (nI place), .val (nI first), .val (nI last), .val (nI bound), .val (nI k), .val (cT []), .val (tp over), .val (nI first), x10]) := by
            unfold B_way_1
            refine dSeq_of (dSet_of ew) ?_
            rw [hc]
            refine dSeq_ret (dIfS_of (b := false) ((dCmp_of rfl rfl).trans (cNeL_nil [])) (fun q => by cases q) fun _ => ?_)
            exact dSeq_of (dSet_of ((dItem_of e3 rfl).trans (item_L0 _ _))) (dSeq_of (dSet_of rfl) (dSeq_ret (dIfS_of el (fun _ => dSeq_ret (dRet_of rfl)) fun q => by cases q)))
          rw [e]
          exact ⟨_, rfl⟩
        | false =>
          rw [hb] at h el
          refine tail over first (.val (cT [])) h ?_
          rw [hc]
          refine dIfS_of (b := false) ((dCmp_of rfl rfl).trans (cNeL_nil [])) (fun q => by cases q) fun _ => ?_
          exact dSeq_of (dSet_of ((dItem_of e3 rfl).trans (item_L0 _ _))) (dSeq_of (dSet_of rfl) (dSeq_of (dIfS_of el (fun q => by cases q) fun _ => rfl) rfl))
theorem way_is {own others : List (Nat × Nat)} {place r : Nat} (hl : own.length ≤ 1000) (hl2 : others.length ≤ 1000) (h : wayL own others place = some r) : F_way [cT own, cT others, nI place] = some (nI r) := by
  unfold wayL at h
  cases ho : own1 own place with
  | nil => rw [ho] at h; cases h
  | cons t ts =>
    rw [ho] at h
    dsimp only at h
    have e1 := way1 (own := own) (others := others) (place := place) (x3 := .unset) (x4 := .unset) (x5 := .unset) (x6 := .unset) (x7 := .unset) (x8 := .unset) (x9 := .unset) (x10 := .unset) hl
    rw [ho] at e1
    obtain ⟨ρ', hr⟩ := way_go (place := place) hl hl2 (List.range 20) t.1 t.2 t.2 r .unset .unset .unset .unset .unset h
    have : D_way [.val (cT own), .val (cT others), .val (nI place), .unset, .unset, .unset, .unset, .unset, .unset, .unset, .unset] = some (.ret (nI r), ρ') := by
      unfold D_way
      refine dSeq_of (ρ' := [.val (cT own), .val (cT others), .val (nI place), .val (nI t.1), .val (nI t.2), .unset, .unset, .unset, .unset, .unset, .unset]) ?_ ?_
      · unfold dUn
        rw [dItem_of e1 rfl]
        rfl
      refine dSeq_of (dSet_of rfl) ?_
      refine dSeq_ret ?_
      refine (dFor_of (l := (List.range 20).map nI) ?_).trans hr
      exact rangeI_N (n := 20) (by exact Nat.le_add_left _ _)
    unfold F_way callDef
    show (match D_way [.val (cT own), .val (cT others), .val (nI place), .unset, .unset, .unset, .unset, .unset, .unset, .unset, .unset] with | some (.ret p, _) => some p | some (.next, _) => some .none | _ => none) = _
    rw [this]
end Mine
end

section
open PySem PySem.W PyProof.Rows PySem.Builtin
set_option Elab.async false
set_option autoImplicit false
set_option linter.unusedVariables false
set_option linter.unusedSimpArgs false
set_option maxRecDepth 100000
namespace Mine
noncomputable abbrev Tk := Nat × List Nat
noncomputable abbrev tkE (p : Tk) : PV := .tup [nI p.1, tx p.2]
noncomputable def escT : Nat → Bool → List Nat → List Tk
  | k, true, [] => [(k - 1, [92])]
  | _, false, [] => []
  | k, true, c :: cs => (k, [92, c]) :: escT (k + 1) false cs
  | k, false, c :: cs => match Nat.beq c 92 with
    | true => escT (k + 1) true cs
    | false => (k, [c]) :: escT (k + 1) false cs
theorem esc_is : ∀ (l : List Nat) (k : Nat) (e : Bool), (e = true → 0 < k) → escL k e l = (escT k e l).map tkE
  | [], k, true, h => by
    have := h rfl
    simp only [escL, escT, List.map_cons, List.map_nil]
    have e : Int.ofNat k - 1 = Int.ofNat (k - 1) := by
      show (k : Int) - 1 = ((k - 1 : Nat) : Int)
      lia
    rw [e]
  | [], k, false, h => rfl
  | c :: cs, k, true, h => by
    simp only [escL, escT, List.map_cons]
    rw [esc_is cs (k + 1) false (fun q => by cases q)]
  | c :: cs, k, false, h => by
    simp only [escL, escT]
    cases Nat.beq c 92 with
    | true => exact esc_is cs (k + 1) true (fun _ => Nat.succ_pos _)
    | false =>
      simp only [List.map_cons]
      rw [esc_is cs (k + 1) false (fun q => by cases q)]
noncomputable def isQ (s : List Nat) (c : Nat) : Bool := match s with
  | [d] => Nat.beq d c
  | _ => false
theorem isQ_eq (s : List Nat) (c : Nat) : ((⟨s.toArray⟩ : Str) == ⟨#[c]⟩) = isQ s c := by
  match s with
  | [] => rfl
  | [d] => exact eq_beq1 d c
  | d :: e :: s =>
    show _ = false
    apply beq_false_of_ne
    intro h
    have : (d :: e :: s).toArray = #[c] := congrArg Str.cps h
    have := congrArg Array.size this
    simp at this
noncomputable def sl (x : List Nat) (i j : Nat) : List Nat := (Txt.slice ⟨x.toArray⟩ (some (Int.ofNat i)) (some (Int.ofNat j))).cps.toList
structure StS where
  start : Nat
  opn : Option Nat
  pcs : List (List Nat)
noncomputable def stStep (x : List Nat) (z : StS) (t : Tk) : StS := match isQ t.2 34 with
  | true => match z.opn with
    | none => { z with opn := some t.1 }
    | some o => match Nat.beq z.start o with
      | true => { start := t.1 + 1, opn := none, pcs := z.pcs }
      | false => { start := t.1 + 1, opn := none, pcs := z.pcs ++ [sl x z.start o] }
  | false => z
noncomputable def opE : Option Nat → PV
  | none => .none
  | some o => nI o
theorem S_q : Str.ofString "\"" = ⟨#[34]⟩ := by decide +kernel
theorem S_op : Str.ofString "(" = ⟨#[40]⟩ := by decide +kernel
theorem S_cl : Str.ofString ")" = ⟨#[41]⟩ := by decide +kernel
theorem slice_is (x : List Nat) (hx : x.length ≤ 1000000) (i j : Nat) : fSlice (tx x) (some (Int.ofNat i)) (some (Int.ofNat j)) none = some (tx (sl x i j)) := by
  unfold fSlice
  dsimp only
  have : small (⟨x.toArray⟩ : Str).length = true := Nat.ble_eq.mpr (by show x.toArray.size ≤ _; simp; exact Nat.le_trans ‹_› (by decide))
  rw [this]
  dsimp only
  congr 2
theorem dSlice_of {v : Den} {a b c : DenP} {ρ : List Slot} {p : PV} {lo hi st : Option Int} (h : v ρ = some p) (h1 : a ρ = some lo) (h2 : b ρ = some hi) (h3 : c ρ = some st) : dSlice v a b c ρ = fSlice p lo hi st := by
  unfold dSlice; rw [h]; dsimp only; rw [h1]; dsimp only; rw [h2]; dsimp only; rw [h3]
theorem strip_turn (x : List Nat) (hx : x.length ≤ 1000000) (z : StS) (t : Tk) (hl : z.pcs.length ≤ 1000000) : B_strip_1 [.val (tx x), .val (nI z.start), .val (opE z.opn), .own (z.pcs.map tx), .val (nI t.1), .val (tx t.2)] =
    some (.next, [.val (tx x), .val (nI (stStep x z t).start), .val (opE (stStep x z t).opn), .own ((stStep x z t).pcs.map tx), .val (nI t.1), .val (tx t.2)]) := by
  have ec : dCmp cEqS (dName 5) (fun _ => some (.str (Str.ofString "\""))) [.val (tx x), .val (nI z.start), .val (opE z.opn), .own (z.pcs.map tx), .val (nI t.1), .val (tx t.2)] = some (isQ t.2 34) := by
    refine (dCmp_of rfl rfl).trans ?_
    rw [S_q]
    exact congrArg some (isQ_eq _ _)
  unfold B_strip_1 stStep
  cases hq : isQ t.2 34 with
  | false =>
    rw [hq] at ec
    exact dSeq_of (dIfS_of ec (fun q => by cases q) fun _ => rfl) rfl
  | true =>
    rw [hq] at ec
    refine dSeq_of (dIfS_of ec (fun _ => ?_) fun q => by cases q) rfl
    obtain ⟨start, opn, pcs⟩ := z
    cases opn with
    | none => exact dSeq_of (dIfS_of (b := true) rfl (fun _ => dSeq_of (dSet_of rfl) rfl) fun q => by cases q) rfl
    | some o =>
      refine dSeq_of (dIfS_of (b := false) rfl (fun q => by cases q) fun _ => ?_) rfl
      have en : dCmp cNeI (dName 1) (dName 2) [.val (tx x), .val (nI start), .val (nI o), .own (pcs.map tx), .val (nI t.1), .val (tx t.2)] = some (!(Nat.beq start o)) := by
        refine (dCmp_of rfl rfl).trans ?_
        show some (Int.ofNat start != Int.ofNat o) = _
        unfold bne
        rw [beq_I]
      dsimp only
      cases hso : Nat.beq start o with
      | true =>
        rw [hso] at en
        exact dSeq_of (dIfS_of en (fun q => by cases q) fun _ => rfl) (dSeq_of (dSet_of rfl) (dSeq_of (dSet_of rfl) rfl))
      | false =>
        rw [hso] at en
        refine dSeq_of (ρ' := [.val (tx x), .val (nI start), .val (nI o), .own ((pcs ++ [sl x start o]).map tx), .val (nI t.1), .val (tx t.2)]) (dIfS_of en (fun _ => dSeq_of ?_ rfl) fun q => by cases q) (dSeq_of (dSet_of rfl) (dSeq_of (dSet_of rfl) rfl))
        refine (dApp_of rfl ((dSlice_of rfl rfl rfl rfl).trans (slice_is x hx start o)) (by rw [List.length_map]; exact Nat.le_trans hl (by exact Nat.le_add_left _ _))).trans ?_
        rw [List.map_append]
        rfl
theorem stStep_len (x : List Nat) (z : StS) (t : Tk) : (stStep x z t).pcs.length ≤ z.pcs.length + 1 := by
  unfold stStep
  split
  · split
    · exact Nat.le_succ _
    · split
      · exact Nat.le_succ _
      · simp
  · exact Nat.le_succ _
theorem strip_loop (x : List Nat) (hx : x.length ≤ 1000000) : ∀ (ts : List Tk) (z : StS) (x4 x5 : Slot), z.pcs.length + ts.length ≤ 1000000 →
    ∃ y4 y5, forD (uTup [4, 5]) B_strip_1 (ts.map tkE) [.val (tx x), .val (nI z.start), .val (opE z.opn), .own (z.pcs.map tx), x4, x5] = some (.next, [.val (tx x), .val (nI (ts.foldl (stStep x) z).start), .val (opE (ts.foldl (stStep x) z).opn), .own ((ts.foldl (stStep x) z).pcs.map tx), y4, y5])
  | [], z, x4, x5, h => ⟨x4, x5, rfl⟩
  | t :: ts, z, x4, x5, h => by
    simp only [List.length_cons] at h
    have hs := stStep_len x z t
    obtain ⟨y4, y5, ih⟩ := strip_loop x hx ts (stStep x z t) (.val (nI t.1)) (.val (tx t.2)) (by lia)
    refine ⟨y4, y5, ?_⟩
    rw [List.map_cons, List.foldl_cons]
    simp only [forD]
    have eu : uTup [4, 5] [.val (tx x), .val (nI z.start), .val (opE z.opn), .own (z.pcs.map tx), x4, x5] (tkE t) = some [.val (tx x), .val (nI z.start), .val (opE z.opn), .own (z.pcs.map tx), .val (nI t.1), .val (tx t.2)] := rfl
    rw [eu]
    dsimp only
    rw [strip_turn x hx z t (by lia)]
    exact ih
noncomputable def tailP (x : List Nat) (s : Nat) : List (List Nat) := match Nat.blt s x.length with
  | true => [(Txt.slice ⟨x.toArray⟩ (some (Int.ofNat s)) none).cps.toList]
  | false => []
noncomputable def st0 : StS := { start := 0, opn := none, pcs := [] }
noncomputable def stEnd (x : List Nat) : StS := (escT 0 false x).foldl (stStep x) st0
noncomputable def stripOut (x : List Nat) : List Nat := ((stEnd x).pcs ++ tailP x (stEnd x).start).flatten
theorem escT_len : ∀ (l : List Nat) (k : Nat) (e : Bool), (escT k e l).length ≤ l.length + 1
  | [], k, true => by simp [escT]
  | [], k, false => by simp [escT]
  | c :: l, k, true => by
    have := escT_len l (k + 1) false
    simp only [escT, List.length_cons]; (apply Nat.lt_succ_of_le; assumption)
  | c :: l, k, false => by
    simp only [escT]
    split
    · have := escT_len l (k + 1) true; simp only [List.length_cons]; (apply Nat.le_succ_of_le; assumption)
    · have := escT_len l (k + 1) false; simp only [List.length_cons]; (apply Nat.lt_succ_of_le; assumption)
theorem fold_len (x : List Nat) : ∀ (ts : List Tk) (z : StS), (ts.foldl (stStep x) z).pcs.length ≤ z.pcs.length + ts.length
  | [], z => Nat.le_refl _
  | t :: ts, z => by
    have h1 := stStep_len x z t
    have h2 := fold_len x ts (stStep x z t)
    simp only [List.foldl_cons, List.length_cons]
    lia
theorem flat_tx (l : List (List Nat)) : flatS (l.map fun s => (⟨s.toArray⟩ : Str)) = l.flatten := by
  unfold flatS
  induction l with
  | nil => rfl
  | cons a l ih => rw [List.map_cons, List.flatMap_cons, ih, List.flatten_cons]
theorem strs_tx : ∀ l : List (List Nat), strsOf (l.map tx) = some (l.map fun s => (⟨s.toArray⟩ : Str))
  | [] => rfl
  | c :: w => by simp only [List.map_cons, strsOf, strs_tx w]
theorem fJoin_is {l : List (List Nat)} (h : l.flatten.length ≤ 16777216) : fJoin [.str (Str.ofString ""), cR l] = some (tx l.flatten) := by
  unfold fJoin
  dsimp only
  rw [strs_tx]
  dsimp only
  rw [S_nil]
  have : (((l.map fun s => (⟨s.toArray⟩ : Str)).map (·.length)).sum + (l.map fun s => (⟨s.toArray⟩ : Str)).length * (⟨#[]⟩ : Str).length) = l.flatten.length := by
    rw [sum_flat, flat_tx]
    show _ + _ * 0 = _
    exact Nat.sub_zero _
  rw [this, Nat.ble_eq.mpr h]
  dsimp only
  rw [join_is, flat_tx]
/-- the text stripped, where it has a quote -/
theorem strip_is {x : List Nat} (hx : x.length ≤ 100000) (ho : (stripOut x).length ≤ 1000000) (hq : x.contains 34 = true ∨ stripOut x = x) : F_strip [tx x] = some (tx (stripOut x)) := by
  unfold F_strip callDef
  show (match D_strip [.val (tx x), .unset, .unset, .unset, .unset, .unset] with | some (.ret p, _) => some p | some (.next, _) => some .none | _ => none) = _
  have key : ∃ ρ', D_strip [.val (tx x), .unset, .unset, .unset, .unset, .unset] = some (.ret (tx (stripOut x)), ρ') := by
    have ec : dCmp cNotInS (fun _ => some (.str (Str.ofString "\""))) (dName 0) [.val (tx x), .unset, .unset, .unset, .unset, .unset] = some (!(x.contains 34)) := by
      refine (dCmp_of rfl rfl).trans ?_
      rw [S_q]
      show some (!Txt.contains ⟨x.toArray⟩ ⟨#[34]⟩) = _
      unfold Txt.contains
      rw [StrLaws.found_one]
      simp
    unfold D_strip
    cases hc : x.contains 34 with
    | false =>
      rw [hc] at ec
      have : stripOut x = x := by
        rcases hq with h | h
        · rw [hc] at h; cases h
        · exact h
      rw [this]
      exact ⟨_, dSeq_ret (dIfS_of ec (fun _ => dSeq_ret (dRet_of rfl)) fun q => by cases q)⟩
    | true =>
      rw [hc] at ec
      obtain ⟨y4, y5, hl⟩ := strip_loop x (by exact Nat.le_trans ‹_› (by decide)) (escT 0 false x) st0 .unset .unset (by
        have := escT_len x 0 false
        show 0 + _ ≤ _
        lia)
      have hlen : (stEnd x).pcs.length ≤ 200000 := by
        have h1 := fold_len x (escT 0 false x) st0
        have h2 := escT_len x 0 false
        have h3 : st0.pcs.length = 0 := rfl
        unfold stEnd
        lia
      refine ⟨[.val (tx x), .val (nI (stEnd x).start), .val (opE (stEnd x).opn), .val (cR ((stEnd x).pcs ++ tailP x (stEnd x).start)), y4, y5], ?_⟩
      refine dSeq_of (dIfS_of ec (fun q => by cases q) fun _ => rfl) (dSeq_of (dSet_of rfl) (dSeq_of (dSet_of rfl) (dSeq_of (ρ' := [.val (tx x), .val (nI 0), .val .none, .own [], .unset, .unset]) rfl ?_)))
      refine dSeq_of (ρ' := [.val (tx x), .val (nI (stEnd x).start), .val (opE (stEnd x).opn), .own ((stEnd x).pcs.map tx), y4, y5]) ((dFor_of (l := (escT 0 false x).map tkE) ?_).trans hl) ?_
      · show some (escL 0 false x.toArray.toList) = _
        exact congrArg some (esc_is x 0 false (fun q => by cases q))
      have el : dCmp cLtI (dName 1) (dCall fLen (dCons (dName 0) dNil)) [.val (tx x), .val (nI (stEnd x).start), .val (opE (stEnd x).opn), .own ((stEnd x).pcs.map tx), y4, y5] = some (Nat.blt (stEnd x).start x.length) := by
        refine (dCmp_of rfl (q := nI x.length) ((dCall_of (dOne_of rfl)).trans ?_)).trans (cLt_N _ _)
        unfold fLen small
        dsimp only
        have : (⟨x.toArray⟩ : Str).length = x.length := by show x.toArray.size = _; simp
        rw [this, Nat.ble_eq.mpr (by exact Nat.le_trans ‹_› (by decide))]
      refine dSeq_of (ρ' := [.val (tx x), .val (nI (stEnd x).start), .val (opE (stEnd x).opn), .own (((stEnd x).pcs ++ tailP x (stEnd x).start).map tx), y4, y5]) ?_ ?_
      · unfold tailP
        cases hb : Nat.blt (stEnd x).start x.length with
        | true =>
          rw [hb] at el
          refine dIfS_of el (fun _ => dSeq_of ?_ rfl) fun q => by cases q
          refine (dApp_of (p := tx (Txt.slice ⟨x.toArray⟩ (some (Int.ofNat (stEnd x).start)) none).cps.toList) rfl ((dSlice_of rfl rfl rfl rfl).trans ?_) (by rw [List.length_map]; exact Nat.le_trans ‹_› (by decide))).trans ?_
          · unfold fSlice
            dsimp only
            have : small (⟨x.toArray⟩ : Str).length = true := Nat.ble_eq.mpr (by show x.toArray.size ≤ _; simp; exact Nat.le_trans ‹_› (by decide))
            rw [this]
          · rw [List.map_append]
            rfl
        | false =>
          rw [hb] at el
          refine dIfS_of el (fun q => by cases q) fun _ => ?_
          rw [List.append_nil]
          rfl
      · exact dSeq_ret (dRet_of ((dMeth_of rfl rfl (dOne_of rfl)).trans (fJoin_is (Nat.le_trans ho (by exact Nat.le_add_left _ _)))))
  obtain ⟨ρ', h⟩ := key
  rw [h]
end Mine
end

section
open PySem PySem.W PyProof.Rows PySem.Builtin
set_option Elab.async false
set_option autoImplicit false
set_option linter.unusedVariables false
set_option linter.unusedSimpArgs false
set_option maxRecDepth 100000
namespace Mine
/- counting what opens and what closes -/
noncomputable def chkT : Int → List Tk → Option Int
  | o, [] => some o
  | o, t :: ts => match isQ t.2 40 with
    | true => chkT (o + 1) ts
    | false => match isQ t.2 41 with
      | true => match decide (o - 1 < 0) with
        | true => none
        | false => chkT (o - 1) ts
      | false => chkT o ts
theorem check_loop (x : PV) : ∀ (ts : List Tk) (o : Int) (x2 x3 : Slot), ∃ f ρ', forD (uTup [2, 3]) B_check_1 (ts.map tkE) [.val x, .val (.int o), x2, x3] = some (f, ρ') ∧ match chkT o ts with
    | none => f = .ret (.bool false)
    | some o' => f = .next ∧ ∃ y2 y3, ρ' = [.val x, .val (.int o'), y2, y3]
  | [], o, x2, x3 => ⟨.next, _, rfl, rfl, x2, x3, rfl⟩
  | t :: ts, o, x2, x3 => by
    rw [List.map_cons]
    simp only [forD, chkT]
    have eu : uTup [2, 3] [.val x, .val (.int o), x2, x3] (tkE t) = some [.val x, .val (.int o), .val (nI t.1), .val (tx t.2)] := rfl
    rw [eu]
    dsimp only
    have e1 : dCmp cEqS (dName 3) (fun _ => some (.str (Str.ofString "("))) [.val x, .val (.int o), .val (nI t.1), .val (tx t.2)] = some (isQ t.2 40) := by
      refine (dCmp_of rfl rfl).trans ?_
      rw [S_op]
      exact congrArg some (isQ_eq _ _)
    have e2 : dCmp cEqS (dName 3) (fun _ => some (.str (Str.ofString ")"))) [.val x, .val (.int o), .val (nI t.1), .val (tx t.2)] = some (isQ t.2 41) := by
      refine (dCmp_of rfl rfl).trans ?_
      rw [S_cl]
      exact congrArg some (isQ_eq _ _)
    cases h1 : isQ t.2 40 with
    | true =>
      rw [h1] at e1
      have eb : B_check_1 [.val x, .val (.int o), .val (nI t.1), .val (tx t.2)] = some (.next, [.val x, .val (.int (o + 1)), .val (nI t.1), .val (tx t.2)]) := by
        unfold B_check_1
        exact dSeq_of (dIfS_of e1 (fun _ => dSeq_of (dSet_of rfl) rfl) fun q => by cases q) rfl
      rw [eb]
      exact check_loop x ts (o + 1) _ _
    | false =>
      rw [h1] at e1
      cases h2 : isQ t.2 41 with
      | false =>
        rw [h2] at e2
        have eb : B_check_1 [.val x, .val (.int o), .val (nI t.1), .val (tx t.2)] = some (.next, [.val x, .val (.int o), .val (nI t.1), .val (tx t.2)]) := by
          unfold B_check_1
          exact dSeq_of (dIfS_of e1 (fun q => by cases q) fun _ => dSeq_of (dIfS_of e2 (fun q => by cases q) fun _ => rfl) rfl) rfl
        rw [eb]
        exact check_loop x ts o _ _
      | true =>
        rw [h2] at e2
        have e3 : dCmp cLtI (dName 1) (fun _ => some (.int (0))) [.val x, .val (.int (o - 1)), .val (nI t.1), .val (tx t.2)] = some (decide (o - 1 < 0)) := rfl
        cases h3 : decide (o - 1 < 0) with
        | true =>
          rw [h3] at e3
          have eb : B_check_1 [.val x, .val (.int o), .val (nI t.1), .val (tx t.2)] = some (.ret (.bool false), [.val x, .val (.int (o - 1)), .val (nI t.1), .val (tx t.2)]) := by
            unfold B_check_1
            exact dSeq_ret (dIfS_of e1 (fun q => by cases q) fun _ => dSeq_ret (dIfS_of e2 (fun _ => dSeq_of (dSet_of rfl) (dSeq_ret (dIfS_of e3 (fun _ => dSeq_ret (dRet_of rfl)) fun q => by cases q))) fun q => by cases q))
          rw [eb]
          exact ⟨_, _, rfl, rfl⟩
        | false =>
          rw [h3] at e3
          have eb : B_check_1 [.val x, .val (.int o), .val (nI t.1), .val (tx t.2)] = some (.next, [.val x, .val (.int (o - 1)), .val (nI t.1), .val (tx t.2)]) := by
            unfold B_check_1
            exact dSeq_of (dIfS_of e1 (fun q => by cases q) fun _ => dSeq_of (dIfS_of e2 (fun _ => dSeq_of (dSet_of rfl) (dSeq_of (dIfS_of e3 (fun q => by cases q) fun _ => rfl) rfl)) fun q => by cases q) rfl) rfl
          rw [eb]
          exact check_loop x ts (o - 1) _ _
noncomputable def chkB (o : Option Int) : Bool := match o with
  | some i => i == 0
  | none => false
theorem check_is {x : List Nat} (hx : x.length ≤ 100000) (ho : (stripOut x).length ≤ 1000000) (hq : x.contains 34 = true ∨ stripOut x = x) : F_check [tx x] = some (.bool (chkB (chkT 0 (escT 0 false (stripOut x))))) := by
  unfold F_check callDef
  show (match D_check [.val (tx x), .unset, .unset, .unset] with | some (.ret p, _) => some p | some (.next, _) => some .none | _ => none) = _
  obtain ⟨f, ρ', hl, hf⟩ := check_loop (tx (stripOut x)) (escT 0 false (stripOut x)) 0 .unset .unset
  have key : ∃ ρ', D_check [.val (tx x), .unset, .unset, .unset] = some (.ret (.bool (chkB (chkT 0 (escT 0 false (stripOut x))))), ρ') := by
    have es : (sGen (dName 0)) [.val (tx (stripOut x)), .val (.int 0), .unset, .unset] = some ((escT 0 false (stripOut x)).map tkE) := by
      show some (escL 0 false (stripOut x).toArray.toList) = _
      exact congrArg some (esc_is _ 0 false (fun q => by cases q))
    unfold D_check
    cases hc : chkT 0 (escT 0 false (stripOut x)) with
    | none =>
      rw [hc] at hf
      subst hf
      exact ⟨ρ', dSeq_of (dSet_of ((dCall_of (dOne_of rfl)).trans (strip_is hx ho hq))) (dSeq_of (dSet_of rfl) (dSeq_ret ((dFor_of es).trans hl)))⟩
    | some o =>
      rw [hc] at hf
      obtain ⟨rfl, y2, y3, rfl⟩ := hf
      exact ⟨_, dSeq_of (dSet_of ((dCall_of (dOne_of rfl)).trans (strip_is hx ho hq))) (dSeq_of (dSet_of rfl) (dSeq_of ((dFor_of es).trans hl) (dSeq_ret (dRet_of (dB_of rfl)))))⟩
  obtain ⟨ρ'', h⟩ := key
  rw [h]
/- the pieces a text is made of: 0 opens, 1 closes, from 2 on the hidden signs -/
noncomputable def chunkL : Nat → List Nat
  | 0 => [40]
  | 1 => [41]
  | 2 => [92, 41]
  | 3 => [34, 41, 34]
  | 4 => [92, 40]
  | 5 => [34, 40, 34]
  | 6 => [92, 34]
  | 7 => [34, 92, 34, 41, 34]
  | _ => [92, 92]
noncomputable def tokC (k : Nat) : Nat → List Tk
  | 0 => [(k, [40])]
  | 1 => [(k, [41])]
  | 2 => [(k + 1, [92, 41])]
  | 3 => [(k, [34]), (k + 1, [41]), (k + 2, [34])]
  | 4 => [(k + 1, [92, 40])]
  | 5 => [(k, [34]), (k + 1, [40]), (k + 2, [34])]
  | 6 => [(k + 1, [92, 34])]
  | 7 => [(k, [34]), (k + 2, [92, 34]), (k + 3, [41]), (k + 4, [34])]
  | _ => [(k + 1, [92, 92])]
noncomputable def quoted : Nat → Bool
  | 3 => true
  | 5 => true
  | 7 => true
  | _ => false
noncomputable def stripC (c : Nat) : List Nat := match quoted c with
  | true => []
  | false => chunkL c
theorem chunk_cases {P : Nat → Prop} (h0 : P 0) (h1 : P 1) (h2 : P 2) (h3 : P 3) (h4 : P 4) (h5 : P 5) (h6 : P 6) (h7 : P 7) (h8 : ∀ n, P (n + 8)) (c : Nat) : P c := by
  match c with
  | 0 => exact h0
  | 1 => exact h1
  | 2 => exact h2
  | 3 => exact h3
  | 4 => exact h4
  | 5 => exact h5
  | 6 => exact h6
  | 7 => exact h7
  | n + 8 => exact h8 n
theorem esc_chunk (k c : Nat) (rest : List Nat) : escT k false (chunkL c ++ rest) = tokC k c ++ escT (k + (chunkL c).length) false rest := by
  induction c using chunk_cases generalizing k <;> rfl
noncomputable def textC (cs : List Nat) : List Nat := cs.flatMap chunkL
noncomputable def outC (cs : List Nat) : List Nat := cs.flatMap stripC
/- the level as the pieces tell it -/
noncomputable def chkC : Int → List Nat → Option Int
  | o, [] => some o
  | o, 0 :: cs => chkC (o + 1) cs
  | o, 1 :: cs => match decide (o - 1 < 0) with
    | true => none
    | false => chkC (o - 1) cs
  | o, _ :: cs => chkC o cs
theorem chk_chunks : ∀ (cs : List Nat) (k : Nat) (o : Int), chkT o (escT k false (outC cs)) = chkC o cs
  | [], k, o => rfl
  | c :: cs, k, o => by
    have e : outC (c :: cs) = stripC c ++ outC cs := by unfold outC; rw [List.flatMap_cons]
    rw [e]
    have ih := chk_chunks cs
    induction c using chunk_cases with
    | h0 => exact (congrArg (chkT o) (esc_chunk k 0 (outC cs))).trans (ih _ _)
    | h1 =>
      refine (congrArg (chkT o) (esc_chunk k 1 (outC cs))).trans ?_
      show (match decide (o - 1 < 0) with | true => none | false => chkT (o - 1) (escT (k + 1) false (outC cs))) = (match decide (o - 1 < 0) with | true => none | false => chkC (o - 1) cs)
      rw [ih]
    | h2 => exact (congrArg (chkT o) (esc_chunk k 2 (outC cs))).trans (ih _ _)
    | h3 => exact ih _ _
    | h4 => exact (congrArg (chkT o) (esc_chunk k 4 (outC cs))).trans (ih _ _)
    | h5 => exact ih _ _
    | h6 => exact (congrArg (chkT o) (esc_chunk k 6 (outC cs))).trans (ih _ _)
    | h7 => exact ih _ _
    | h8 n => exact (congrArg (chkT o) (esc_chunk k (n + 8) (outC cs))).trans (ih _ _)
/- the strip of the pieces -/
theorem sl_is {x : List Nat} {i j : Nat} (h1 : i ≤ j) (h2 : j ≤ x.length) : sl x i j = (x.drop i).take (j - i) := by
  unfold sl
  have h := slice_closesL (x := ⟨x.toArray⟩) (i := Int.ofNat i) (j := Int.ofNat j) (Int.natCast_nonneg i) (Int.ofNat_le.mpr h1) (by show (j : Int) ≤ ((x.toArray.size : Nat) : Int); simp; assumption)
  have h := eq_of_beq h
  rw [h]
  show ((x.toArray.toList.drop i).take _) = _
  have : (Int.ofNat j - Int.ofNat i).toNat = j - i := by show ((j : Int) - (i : Int)).toNat = _; lia
  rw [this]
theorem tail_is (x : List Nat) {i : Nat} (h : i ≤ x.length) : (tailP x i).flatten = x.drop i := by
  unfold tailP
  cases hb : Nat.blt i x.length with
  | true =>
    have h := slice_from_eq (x := ⟨x.toArray⟩) (i := Int.ofNat i) (b := Int.ofNat x.length) (Int.natCast_nonneg i) (by show (i : Int) ≤ ((x.toArray.size : Nat) : Int); simp; assumption) (by show (x.length : Int) = ((x.toArray.size : Nat) : Int); simp)
    dsimp only
    rw [h]
    simp only [List.flatten_cons, List.flatten_nil, List.append_nil]
    show ((x.toArray.toList.drop i).take _) = _
    apply List.take_of_length_le
    have : (Int.ofNat x.length - Int.ofNat i).toNat = x.length - i := by show ((x.length : Int) - (i : Int)).toNat = _; lia
    rw [this]
    simp
  | false =>
    have : ¬ i < x.length := fun q => by rw [Nat.blt_eq.mpr q] at hb; cases hb
    rw [List.drop_eq_nil_of_le (by (apply Nat.not_lt.mp; assumption))]
    rfl
/-- what is gathered so far -/
noncomputable def got (x : List Nat) (z : StS) (k : Nat) : List Nat := z.pcs.flatten ++ (x.drop z.start).take (k - z.start)
theorem strip_chunk {x pre rest : List Nat} {c : Nat} {z : StS} (hx : x = pre ++ (chunkL c ++ rest)) (ho : z.opn = none) (hs : z.start ≤ pre.length) :
    ((tokC pre.length c).foldl (stStep x) z).opn = none ∧ ((tokC pre.length c).foldl (stStep x) z).start ≤ pre.length + (chunkL c).length ∧ got x ((tokC pre.length c).foldl (stStep x) z) (pre.length + (chunkL c).length) = got x z pre.length ++ stripC c := by
  obtain ⟨start, opn, pcs⟩ := z
  dsimp only at ho hs
  subst ho
  have plain : ∀ n : Nat, n = (chunkL c).length → quoted c = false → pcs.flatten ++ (x.drop start).take (pre.length + n - start) = (pcs.flatten ++ (x.drop start).take (pre.length - start)) ++ stripC c := by
    intro n hn hq
    have e1 : stripC c = chunkL c := by unfold stripC; rw [hq]
    rw [e1, List.append_assoc]
    congr 1
    have e2 : x.drop start = pre.drop start ++ (chunkL c ++ rest) := by rw [hx, List.drop_append_of_le_length hs]
    have l1 : (pre.drop start).length = pre.length - start := by simp
    have a1 : (x.drop start).take (pre.length + n - start) = pre.drop start ++ chunkL c := by
      rw [e2, ← List.append_assoc]
      exact List.take_left' (by rw [List.length_append, l1, hn]; lia)
    have a2 : (x.drop start).take (pre.length - start) = pre.drop start := by
      rw [e2]
      exact List.take_left' l1
    rw [a1, a2]
  have quot : ∀ n : Nat, quoted c = true → n = (chunkL c).length → ∀ (z' : StS), z' = (match Nat.beq start pre.length with
      | true => { start := pre.length + n, opn := none, pcs := pcs }
      | false => { start := pre.length + n, opn := none, pcs := pcs ++ [sl x start pre.length] }) → z'.opn = none ∧ z'.start ≤ pre.length + n ∧ got x z' (pre.length + n) = (pcs.flatten ++ (x.drop start).take (pre.length - start)) ++ stripC c := by
    intro n hq hn z' hz
    have e1 : stripC c = [] := by unfold stripC; rw [hq]
    rw [e1, List.append_nil]
    cases hb : Nat.beq start pre.length with
    | true =>
      rw [hb] at hz
      subst hz
      refine ⟨rfl, Nat.le_refl _, ?_⟩
      have := Nat.eq_of_beq_eq_true hb
      unfold got
      simp [this]
    | false =>
      rw [hb] at hz
      subst hz
      refine ⟨rfl, Nat.le_refl _, ?_⟩
      unfold got
      simp only [Nat.sub_self, List.take_zero, List.append_nil, List.flatten_append, List.flatten_cons, List.flatten_nil]
      rw [sl_is hs (by rw [hx]; simp)]
  induction c using chunk_cases with
  | h0 => exact ⟨rfl, Nat.le_trans hs (Nat.le_add_right _ _), plain 1 rfl rfl⟩
  | h1 => exact ⟨rfl, Nat.le_trans hs (Nat.le_add_right _ _), plain 1 rfl rfl⟩
  | h2 => exact ⟨rfl, Nat.le_trans hs (Nat.le_add_right _ _), plain 2 rfl rfl⟩
  | h3 => exact quot 3 rfl rfl _ rfl
  | h4 => exact ⟨rfl, Nat.le_trans hs (Nat.le_add_right _ _), plain 2 rfl rfl⟩
  | h5 => exact quot 3 rfl rfl _ rfl
  | h6 => exact ⟨rfl, Nat.le_trans hs (Nat.le_add_right _ _), plain 2 rfl rfl⟩
  | h7 => exact quot 5 rfl rfl _ rfl
  | h8 n => exact ⟨rfl, Nat.le_trans hs (Nat.le_add_right _ _), plain 2 rfl rfl⟩
theorem strip_fold {x : List Nat} : ∀ (cs : List Nat) (pre : List Nat) (z : StS), x = pre ++ textC cs → z.opn = none → z.start ≤ pre.length →
    ((escT pre.length false (textC cs)).foldl (stStep x) z).start ≤ x.length ∧ got x ((escT pre.length false (textC cs)).foldl (stStep x) z) x.length = got x z pre.length ++ outC cs
  | [], pre, z, hx, ho, hs => by
    have : x.length = pre.length := by rw [hx]; simp [textC]
    rw [this]
    exact ⟨hs, by simp [textC, escT, outC]⟩
  | c :: cs, pre, z, hx, ho, hs => by
    have e : textC (c :: cs) = chunkL c ++ textC cs := by unfold textC; rw [List.flatMap_cons]
    rw [e] at hx ⊢
    obtain ⟨h1, h2, h3⟩ := strip_chunk (c := c) hx ho hs
    rw [esc_chunk, List.foldl_append]
    have hl : (pre ++ chunkL c).length = pre.length + (chunkL c).length := by simp
    have ih := strip_fold (x := x) cs (pre ++ chunkL c) ((tokC pre.length c).foldl (stStep x) z) (by rw [hx]; simp) h1 (by rw [hl]; exact h2)
    rw [hl] at ih
    refine ⟨ih.1, ?_⟩
    rw [ih.2, h3]
    unfold outC
    rw [List.flatMap_cons, List.append_assoc]
theorem strip_text (cs : List Nat) : stripOut (textC cs) = outC cs := by
  obtain ⟨h1, h2⟩ := strip_fold (x := textC cs) cs [] st0 rfl rfl (Nat.le_refl _)
  change ((escT 0 false (textC cs)).foldl (stStep (textC cs)) st0).start ≤ _ at h1
  change got _ ((escT 0 false (textC cs)).foldl (stStep (textC cs)) st0) _ = _ at h2
  unfold stripOut stEnd
  rw [List.flatten_append, tail_is _ h1]
  have e : got (textC cs) st0 ([] : List Nat).length = [] := rfl
  rw [e, List.nil_append] at h2
  rw [← h2]
  unfold got
  congr 1
  exact (List.take_of_length_le (by simp)).symm
theorem no_quote : ∀ (cs : List Nat), (textC cs).contains 34 = false → outC cs = textC cs
  | [], _ => rfl
  | c :: cs, h => by
    have e : textC (c :: cs) = chunkL c ++ textC cs := by unfold textC; rw [List.flatMap_cons]
    have e2 : outC (c :: cs) = stripC c ++ outC cs := by unfold outC; rw [List.flatMap_cons]
    rw [e] at h
    have hp : (chunkL c).contains 34 = false ∧ (textC cs).contains 34 = false := by
      simp only [List.contains_eq_any_beq, List.any_append, Bool.or_eq_false_iff] at h ⊢
      exact h
    rw [e, e2, no_quote cs hp.2]
    congr 1
    have := hp.1
    induction c using chunk_cases with
    | h3 => cases this
    | h5 => cases this
    | h7 => cases this
    | _ => rfl
theorem text_len : ∀ cs : List Nat, (textC cs).length ≤ 5 * cs.length
  | [] => Nat.le_refl _
  | c :: cs => by
    have e : textC (c :: cs) = chunkL c ++ textC cs := by unfold textC; rw [List.flatMap_cons]
    have ih := text_len cs
    have : (chunkL c).length ≤ 5 := by induction c using chunk_cases <;> exact Nat.le_of_ble_eq_true rfl
    rw [e, List.length_append, List.length_cons]
    lia
theorem out_len : ∀ cs : List Nat, (outC cs).length ≤ 5 * cs.length
  | [] => Nat.le_refl _
  | c :: cs => by
    have e : outC (c :: cs) = stripC c ++ outC cs := by unfold outC; rw [List.flatMap_cons]
    have ih := out_len cs
    have : (stripC c).length ≤ 5 := by induction c using chunk_cases <;> exact Nat.le_of_ble_eq_true rfl
    rw [e, List.length_append, List.length_cons]
    lia
/-- the judgement on a text made of pieces -/
theorem check_text {cs : List Nat} (h : cs.length ≤ 1000) : F_check [tx (textC cs)] = some (.bool (chkB (chkC 0 cs))) := by
  have h1 := text_len cs
  have h2 := out_len cs
  rw [check_is (by lia) (by rw [strip_text]; lia) ?_, strip_text, chk_chunks]
  cases hc : (textC cs).contains 34 with
  | true => exact .inl rfl
  | false => exact .inr (by rw [strip_text]; exact no_quote cs hc)
end Mine
end

section
open PySem PySem.W PyProof.Rows PySem.Builtin
set_option Elab.async false
set_option autoImplicit false
set_option linter.unusedVariables false
set_option linter.unusedSimpArgs false
set_option maxRecDepth 100000
namespace Mine
noncomputable abbrev hidE (hs : List Nat) : PV := cR ([] :: hs.map fun j => chunkL (j + 2))
noncomputable def kindW (w : List Nat) (shown : Nat) (hs : List Nat) (i : Nat) : Nat := match Nat.beq (w.getD i 0) 114 with
  | true => 0
  | false => match Nat.beq (w.getD i 0) shown with
    | true => 1
    | false => hs.getD (i - 1) 0 + 2
noncomputable def stepI (k : Nat) : Int := match k with
  | 0 => 1
  | 1 => -1
  | _ => 0
noncomputable def minI (a b : Int) : Int := match decide (b < a) with
  | true => b
  | false => a
theorem fMin_I (a b : Int) : fMin [.int a, .int b] = some (.int (minI a b)) := by
  show (match decide (b < a) with
    | true => some (PV.int b)
    | false => some (PV.int a)) = _
  unfold minI
  cases decide (b < a) <;> rfl
/- the level and the judgement agree -/
noncomputable def AgreeI (o : Option Int) (lv lw : Int) : Prop := match o with
  | some i => lv = i ∧ 0 ≤ lw ∧ lw ≤ lv
  | none => lw < 0
theorem chkC_snoc : ∀ (cs : List Nat) (o : Int) (c : Nat), chkC o (cs ++ [c]) = (match chkC o cs with
    | some i => chkC i [c]
    | none => none)
  | [], o, c => by simp only [List.nil_append, chkC]
  | 0 :: cs, o, c => by simp only [List.cons_append, chkC]; exact chkC_snoc cs (o + 1) c
  | 1 :: cs, o, c => by
    simp only [List.cons_append, chkC]
    cases decide (o - 1 < 0) with
    | true => rfl
    | false => exact chkC_snoc cs (o - 1) c
  | (n + 2) :: cs, o, c => by simp only [List.cons_append, chkC]; exact chkC_snoc cs o c
theorem minI_le (a b : Int) : minI a b ≤ a ∧ minI a b ≤ b ∧ (minI a b = a ∨ minI a b = b) := by
  unfold minI
  cases h : decide (b < a) with
  | true => have := of_decide_eq_true h; exact ⟨by show b ≤ a; lia, Int.le_refl b, .inr rfl⟩
  | false => have := of_decide_eq_false h; exact ⟨Int.le_refl a, by show a ≤ b; lia, .inl rfl⟩
theorem agree_step {cs : List Nat} {lv lw : Int} {c : Nat} (h : AgreeI (chkC 0 cs) lv lw) : AgreeI (chkC 0 (cs ++ [c])) (lv + stepI c) (minI lw (lv + stepI c)) := by
  rw [chkC_snoc]
  obtain ⟨h1, h2, h3⟩ := minI_le lw (lv + stepI c)
  cases hc : chkC 0 cs with
  | none =>
    rw [hc] at h
    have h : lw < 0 := h
    show minI lw (lv + stepI c) < 0
    lia
  | some i =>
    rw [hc] at h
    obtain ⟨rfl, h5, h6⟩ := h
    match c, h1, h2, h3 with
    | 0, h1, h2, h3 =>
      show lv + 1 = lv + 1 ∧ _
      have : stepI 0 = 1 := rfl
      rw [this] at h1 h2 h3 ⊢
      exact ⟨rfl, by lia, by assumption⟩
    | 1, h1, h2, h3 =>
      have e : stepI 1 = -1 := rfl
      rw [e] at h1 h2 h3 ⊢
      simp only [chkC]
      cases hd : decide (lv - 1 < 0) with
      | true => have := of_decide_eq_true hd; show minI lw (lv + -1) < 0; lia
      | false => have := of_decide_eq_false hd; exact ⟨by rfl, by omega, by assumption⟩
    | n + 2, h1, h2, h3 =>
      have e : stepI (n + 2) = 0 := rfl
      rw [e] at h1 h2 h3 ⊢
      exact ⟨by lia, by lia, by assumption⟩
theorem agree_told {o : Option Int} {lv lw : Int} (h : AgreeI o lv lw) : chkB o = (lv == 0 && lw == 0) := by
  cases o with
  | none =>
    have h : lw < 0 := h
    show false = _
    have : (lw == 0) = false := beq_false_of_ne (by lia)
    rw [this, Bool.and_false]
  | some i =>
    obtain ⟨rfl, h1, h2⟩ := h
    show (lv == 0) = _
    by_cases e : lv = 0
    · subst e
      have : lw = 0 := by lia
      subst this
      rfl
    · have : (lv == 0) = false := beq_false_of_ne e
      rw [this]; rfl
noncomputable def endsGo (kf : Nat → Nat) : Int → Int → List Nat → List Nat → List Nat
  | _, _, es, [] => es
  | lv, lw, es, i :: l => endsGo kf (lv + stepI (kf i)) (minI lw (lv + stepI (kf i))) (match (lv + stepI (kf i)) == 0 && (minI lw (lv + stepI (kf i))) == 0 with
      | true => es ++ [i]
      | false => es) l
theorem textC_snoc (cs : List Nat) (c : Nat) : textC (cs ++ [c]) = textC cs ++ chunkL c := by unfold textC; rw [List.flatMap_append]; simp
theorem chunk_le (c : Nat) : (chunkL c).length ≤ 5 := by induction c using chunk_cases <;> exact Nat.le_of_ble_eq_true rfl
theorem fAdd_tx {a b : List Nat} (h : a.length + b.length ≤ 1000000) : fAddS (tx a) (tx b) = some (tx (a ++ b)) := by
  unfold fAddS
  dsimp only
  have : Nat.ble ((⟨a.toArray⟩ : Str).length + (⟨b.toArray⟩ : Str).length) 16777216 = true := Nat.ble_eq.mpr (by show a.toArray.size + b.toArray.size ≤ _; simp; exact Nat.le_trans ‹_› (by decide))
  rw [this]
  dsimp only
  congr 2
  apply ext_str
  rw [str_add]
section
variable {w hs : List Nat} {shown : Nat}
theorem tie_turn (hw : w.length < 900) (hh : hs.length + 1 = w.length) {cs es : List Nat} {lv lw : Int} {i : Nat} (hcs : cs.length < 900) (hes : es.length < 900) (hi : i < w.length) (h0 : 0 < i) (ag : AgreeI (chkC 0 cs) lv lw) (T : List PV) (x4 x5 x11 x12 : Slot) :
    ∃ y11 y12, B_ties_1 [.val (cW w), .val (ch shown), .val (hidE hs), .own T, x4, x5, .val (tx (textC cs)), .val (.int lv), .val (.int lw), .own (es.map nI), .val (nI i), x11, x12] =
      some (.next, [.val (cW w), .val (ch shown), .val (hidE hs), .own T, x4, x5, .val (tx (textC (cs ++ [kindW w shown hs i]))), .val (.int (lv + stepI (kindW w shown hs i))), .val (.int (minI lw (lv + stepI (kindW w shown hs i)))), .own ((match (lv + stepI (kindW w shown hs i)) == 0 && (minI lw (lv + stepI (kindW w shown hs i))) == 0 with
      | true => es ++ [i]
      | false => es).map nI), .val (nI i), y11, y12]) := by
  generalize hk : kindW w shown hs i = k
  generalize hlv : lv + stepI k = lv'
  generalize hlw : minI lw lv' = lw'
  have ag' := agree_step (c := k) ag
  rw [hlv, hlw] at ag'
  have hcl := text_len cs
  have hck := chunk_le k
  refine ⟨.val (ch (w.getD i 0)), .val (.bool (lv' == 0 && lw' == 0)), ?_⟩
  unfold B_ties_1
  refine dSeq_of (dSet_of ((dItem_of rfl rfl).trans (item_W hi (by exact Nat.lt_of_lt_of_le ‹_› (by decide))))) ?_
  have er : ∀ (x6 x7 x8 x9 : Slot), dCmp cEqS (dName 11) (fun _ => some (.str (Str.ofString "r"))) [.val (cW w), .val (ch shown), .val (hidE hs), .own T, x4, x5, x6, x7, x8, x9, .val (nI i), .val (ch (w.getD i 0)), x12] = some (Nat.beq (w.getD i 0) 114) := fun x6 x7 x8 x9 => by
    refine (dCmp_of rfl (congrArg _ (congrArg _ S_r))).trans (cEq_ch _ _)
  have es' : ∀ (x6 x7 x8 x9 : Slot), dCmp cEqS (dName 11) (dName 1) [.val (cW w), .val (ch shown), .val (hidE hs), .own T, x4, x5, x6, x7, x8, x9, .val (nI i), .val (ch (w.getD i 0)), x12] = some (Nat.beq (w.getD i 0) shown) := fun x6 x7 x8 x9 => (dCmp_of rfl rfl).trans (cEq_ch _ _)
  have echunk : dIf (dCmp cEqS (dName 11) (fun _ => some (.str (Str.ofString "r")))) (fun _ => some (.str (Str.ofString "("))) (dIf (dCmp cEqS (dName 11) (dName 1)) (fun _ => some (.str (Str.ofString ")"))) (dItem (dName 2) (dName 10)))
      [.val (cW w), .val (ch shown), .val (hidE hs), .own T, x4, x5, .val (tx (textC cs)), .val (.int lv), .val (.int lw), .own (es.map nI), .val (nI i), .val (ch (w.getD i 0)), x12] = some (tx (chunkL k)) := by
    refine dIf_of (er _ _ _ _) (fun h => ?_) fun h => dIf_of (es' _ _ _ _) (fun h2 => ?_) fun h2 => ?_
    · have : k = 0 := by rw [← hk]; unfold kindW; rw [h]
      rw [this]
      show some (PV.str (Str.ofString "(")) = _
      rw [S_op]; rfl
    · have : k = 1 := by rw [← hk]; unfold kindW; rw [h, h2]
      rw [this]
      show some (PV.str (Str.ofString ")")) = _
      rw [S_cl]; rfl
    · have : k = hs.getD (i - 1) 0 + 2 := by rw [← hk]; unfold kindW; rw [h, h2]
      refine (dItem_of rfl rfl).trans ((item_R (w := [] :: hs.map fun j => chunkL (j + 2)) (by simp; lia) (by simp; lia)).trans ?_)
      rw [this]
      cases i with
      | zero => lia
      | succ i =>
        rw [List.getD_cons_succ]
        have hl : i < hs.length := by lia
        simp [List.getD_eq_getElem?_getD, hl]
  refine dSeq_of (dSet_of (p := tx (textC (cs ++ [k]))) ((dBin_of rfl echunk).trans ((fAdd_tx (by lia)).trans (by rw [textC_snoc])))) ?_
  have elev : dIf (dCmp cEqS (dName 11) (fun _ => some (.str (Str.ofString "r")))) (fun _ => some (.int (1))) (dIf (dCmp cEqS (dName 11) (dName 1)) (dNeg (fun _ => some (.int (1)))) (fun _ => some (.int (0))))
      [.val (cW w), .val (ch shown), .val (hidE hs), .own T, x4, x5, .val (tx (textC (cs ++ [k]))), .val (.int lv), .val (.int lw), .own (es.map nI), .val (nI i), .val (ch (w.getD i 0)), x12] = some (.int (stepI k)) := by
    refine dIf_of (er _ _ _ _) (fun h => ?_) fun h => dIf_of (es' _ _ _ _) (fun h2 => ?_) fun h2 => ?_
    · have : k = 0 := by rw [← hk]; unfold kindW; rw [h]
      rw [this]; rfl
    · have : k = 1 := by rw [← hk]; unfold kindW; rw [h, h2]
      rw [this]; rfl
    · have : k = hs.getD (i - 1) 0 + 2 := by rw [← hk]; unfold kindW; rw [h, h2]
      rw [this]; rfl
  refine dSeq_of (dSet_of (p := .int lv') ((dBin_of rfl elev).trans (by rw [← hlv]; rfl))) ?_
  refine dSeq_of (dSet_of (p := .int lw') ((dCall_of (dCons_of rfl (dOne_of rfl))).trans ((fMin_I _ _).trans (by rw [hlw])))) ?_
  refine dSeq_of (dSet_of (p := .bool (lv' == 0 && lw' == 0)) ((dCall_of (dOne_of rfl)).trans ((check_text (by simp; exact Nat.le_of_lt (Nat.lt_of_lt_of_le ‹_› (by decide)))).trans (by rw [agree_told ag'])))) ?_
  refine dSeq_of (dIfS_of (b := false) ((dCmp_of rfl (dB_of (dAnd_of (x := lv' == 0) (y := lw' == 0) rfl rfl))).trans (by show some (_ != _) = _; simp)) (fun q => by cases q) fun _ => rfl) ?_
  cases hb : (lv' == 0 && lw' == 0) with
  | true =>
    refine dSeq_of (dIfS_of (b := true) rfl (fun _ => dSeq_of (dApp_of rfl rfl (by rw [List.length_map]; exact Nat.le_of_lt (Nat.lt_of_lt_of_le ‹_› (by decide)))) rfl) fun q => by cases q) ?_
    dsimp only
    rw [List.map_append]
    rfl
  | false => exact dSeq_of (dIfS_of (b := false) rfl (fun q => by cases q) fun _ => rfl) rfl
theorem tie_loop (hw : w.length < 800) (hh : hs.length + 1 = w.length) (T : List PV) (x4 x5 : Slot) : ∀ (l : List Nat) (cs es : List Nat) (lv lw : Int) (x10 x11 x12 : Slot), (∀ i ∈ l, 0 < i ∧ i < w.length) → cs.length + l.length < 900 → es.length + l.length < 900 → AgreeI (chkC 0 cs) lv lw →
    ∃ y6 y7 y8 y10 y11 y12, forD (uName 10) B_ties_1 (l.map nI) [.val (cW w), .val (ch shown), .val (hidE hs), .own T, x4, x5, .val (tx (textC cs)), .val (.int lv), .val (.int lw), .own (es.map nI), x10, x11, x12] =
      some (.next, [.val (cW w), .val (ch shown), .val (hidE hs), .own T, x4, x5, y6, y7, y8, .own ((endsGo (kindW w shown hs) lv lw es l).map nI), y10, y11, y12])
  | [], cs, es, lv, lw, x10, x11, x12, _, _, _, _ => ⟨_, _, _, _, _, _, rfl⟩
  | i :: l, cs, es, lv, lw, x10, x11, x12, hi, hc, he, ag => by
    simp only [List.length_cons] at hc he
    obtain ⟨h0, h1⟩ := hi i List.mem_cons_self
    obtain ⟨y11, y12, ht⟩ := tie_turn (shown := shown) (by exact Nat.lt_of_lt_of_le ‹_› (by decide)) hh (cs := cs) (es := es) (lv := lv) (lw := lw) (i := i) (by lia) (by lia) h1 h0 ag T x4 x5 x11 x12
    have hlen : (match (lv + stepI (kindW w shown hs i)) == 0 && (minI lw (lv + stepI (kindW w shown hs i))) == 0 with
      | true => es ++ [i]
      | false => es).length ≤ es.length + 1 := by split <;> simp
    obtain ⟨z6, z7, z8, z10, z11, z12, ih⟩ := tie_loop hw hh T x4 x5 l (cs ++ [kindW w shown hs i]) (match (lv + stepI (kindW w shown hs i)) == 0 && (minI lw (lv + stepI (kindW w shown hs i))) == 0 with
      | true => es ++ [i]
      | false => es) _ _ (.val (nI i)) y11 y12 (fun j hj => hi j (List.mem_cons_of_mem _ hj)) (by simp; lia) (by lia) (agree_step ag)
    refine ⟨z6, z7, z8, z10, z11, z12, ?_⟩
    rw [List.map_cons]
    simp only [forD]
    have eu : uName 10 [.val (cW w), .val (ch shown), .val (hidE hs), .own T, x4, x5, .val (tx (textC cs)), .val (.int lv), .val (.int lw), .own (es.map nI), x10, x11, x12] (nI i) = some [.val (cW w), .val (ch shown), .val (hidE hs), .own T, x4, x5, .val (tx (textC cs)), .val (.int lv), .val (.int lw), .own (es.map nI), .val (nI i), x11, x12] := rfl
    rw [eu]
    dsimp only
    rw [ht]
    exact ih
end
/- where a tie ends -/
noncomputable def tieG (w : List Nat) (shown : Nat) : Nat → Nat → Nat → Option Nat
  | _, _, 0 => none
  | lv, i, m + 1 => match Nat.beq (w.getD i 0) 114 with
    | true => tieG w shown (lv + 1) (i + 1) m
    | false => match Nat.beq (w.getD i 0) shown with
      | true => match lv with
        | 0 => none
        | 1 => some i
        | n + 2 => tieG w shown (n + 1) (i + 1) m
      | false => tieG w shown lv (i + 1) m
theorem ends_pre (kf : Nat → Nat) : ∀ (l : List Nat) (lv lw : Int) (es : List Nat), ∃ m, endsGo kf lv lw es l = es ++ m
  | [], lv, lw, es => ⟨[], by simp [endsGo]⟩
  | i :: l, lv, lw, es => by
    simp only [endsGo]
    split
    · obtain ⟨m, hm⟩ := ends_pre kf l (lv + stepI (kf i)) (minI lw (lv + stepI (kf i))) (es ++ [i])
      exact ⟨[i] ++ m, by rw [hm, List.append_assoc]⟩
    · exact ends_pre kf l _ _ es
theorem tie_head {w hs : List Nat} {shown : Nat} : ∀ (m i lv : Nat) (lw : Int) (e : Nat), 1 ≤ lw → lw ≤ (lv : Int) → tieG w shown lv i m = some e → ∃ r, endsGo (kindW w shown hs) (lv : Int) lw [] (List.range' i m) = e :: r
  | 0, i, lv, lw, e, _, _, h => by simp [tieG] at h
  | m + 1, i, lv, lw, e, h1, h2, h => by
    rw [List.range'_succ]
    simp only [endsGo]
    simp only [tieG] at h
    have hkd : kindW w shown hs i = match Nat.beq (w.getD i 0) 114 with
      | true => 0
      | false => match Nat.beq (w.getD i 0) shown with
        | true => 1
        | false => hs.getD (i - 1) 0 + 2 := rfl
    generalize kindW w shown hs i = k at hkd ⊢
    cases hr : Nat.beq (w.getD i 0) 114 with
    | true =>
      rw [hr] at h hkd
      dsimp only at h hkd
      subst hkd
      have e1 : (lv : Int) + stepI 0 = ((lv + 1 : Nat) : Int) := rfl
      obtain ⟨m1, m2, m3⟩ := minI_le lw ((lv : Int) + stepI 0)
      have hz : ((lv : Int) + stepI 0 == 0) = false := beq_false_of_ne (by rw [e1]; lia)
      rw [hz, Bool.false_and]
      dsimp only
      rw [e1] at m1 m2 m3 ⊢
      exact tie_head m (i + 1) (lv + 1) _ e (by lia) (by assumption) h
    | false =>
      rw [hr] at h hkd
      dsimp only at h hkd
      cases hq : Nat.beq (w.getD i 0) shown with
      | true =>
        rw [hq] at h hkd
        dsimp only at h hkd
        subst hkd
        match lv, h2, h with
        | 0, h2, h => cases h
        | 1, h2, h =>
          cases h
          have hl : lw = 1 := by lia
          subst hl
          exact ends_pre _ _ _ _ [i]
        | n + 2, h2, h =>
          have e1 : ((n + 2 : Nat) : Int) + stepI 1 = ((n + 1 : Nat) : Int) := by show ((n + 2 : Nat) : Int) + -1 = _; lia
          obtain ⟨m1, m2, m3⟩ := minI_le lw (((n + 2 : Nat) : Int) + stepI 1)
          have hz : (((n + 2 : Nat) : Int) + stepI 1 == 0) = false := beq_false_of_ne (by rw [e1]; lia)
          rw [hz, Bool.false_and]
          dsimp only
          rw [e1] at m1 m2 m3 ⊢
          exact tie_head m (i + 1) (n + 1) _ e (by lia) (by assumption) h
      | false =>
        rw [hq] at h hkd
        dsimp only at h hkd
        subst hkd
        have e1 : (lv : Int) + stepI (hs.getD (i - 1) 0 + 2) = (lv : Int) := by show (lv : Int) + 0 = _; rfl
        obtain ⟨m1, m2, m3⟩ := minI_le lw ((lv : Int) + stepI (hs.getD (i - 1) 0 + 2))
        have hz : ((lv : Int) + stepI (hs.getD (i - 1) 0 + 2) == 0) = false := beq_false_of_ne (by rw [e1]; lia)
        rw [hz, Bool.false_and]
        dsimp only
        rw [e1] at m1 m2 m3 ⊢
        exact tie_head m (i + 1) lv _ e (by lia) (by assumption) h
noncomputable def tiesGo (w : List Nat) (shown : Nat) : List (Nat × Nat) → Option (List (Nat × Nat))
  | [] => some []
  | p :: l => match Nat.beq p.2 114 with
    | true => match tieG w shown 1 (p.1 + 1) (w.length - (p.1 + 1)) with
      | some e => match tiesGo w shown l with
        | some r => some ((p.1, e) :: r)
        | none => none
      | none => none
    | false => tiesGo w shown l
noncomputable def tiesL (w : List Nat) (shown : Nat) : Option (List (Nat × Nat)) := tiesGo w shown (enumN 0 w)
theorem rangeI2 {a b : Nat} (ha : a < 1000000) (hb : b < 1000000) : rangeI (Int.ofNat a) (Int.ofNat b) = some ((List.range' a (b - a)).map nI) := by
  unfold rangeI
  have h1 : okR (Int.ofNat a) = true := Nat.blt_eq.mpr ha
  have h2 : okR (Int.ofNat b) = true := Nat.blt_eq.mpr hb
  rw [h1, h2]
  dsimp only
  have : (Int.ofNat b - Int.ofNat a).toNat = b - a := by show ((b : Int) - (a : Int)).toNat = _; lia
  rw [this, upTo_N]
theorem ends_len (kf : Nat → Nat) : ∀ (l : List Nat) (lv lw : Int) (es : List Nat), (endsGo kf lv lw es l).length ≤ es.length + l.length
  | [], lv, lw, es => Nat.le_refl _
  | i :: l, lv, lw, es => by
    simp only [endsGo, List.length_cons]
    split
    · have := ends_len kf l (lv + stepI (kf i)) (minI lw (lv + stepI (kf i))) (es ++ [i]); simp only [List.length_append, List.length_cons, List.length_nil] at this; lia
    · have := ends_len kf l (lv + stepI (kf i)) (minI lw (lv + stepI (kf i))) es; (apply Nat.le_succ_of_le; assumption)
theorem ties_loop {w hs : List Nat} {shown : Nat} (hw : w.length < 800) (hh : hs.length + 1 = w.length) : ∀ (l : List (Nat × Nat)) (T r : List (Nat × Nat)) (x4 x5 x6 x7 x8 x9 x10 x11 x12 : Slot), (∀ p ∈ l, p.1 < w.length) → T.length + l.length < 1000 → tiesGo w shown l = some r →
    ∃ y4 y5 y6 y7 y8 y9 y10 y11 y12, forD (uTup [4, 5]) B_ties_2 (l.map fun p => PV.tup [nI p.1, ch p.2]) [.val (cW w), .val (ch shown), .val (hidE hs), .own (T.map tp), x4, x5, x6, x7, x8, x9, x10, x11, x12] =
      some (.next, [.val (cW w), .val (ch shown), .val (hidE hs), .own ((T ++ r).map tp), y4, y5, y6, y7, y8, y9, y10, y11, y12])
  | [], T, r, x4, x5, x6, x7, x8, x9, x10, x11, x12, _, _, h => by
    simp only [tiesGo] at h
    cases h
    exact ⟨x4, x5, x6, x7, x8, x9, x10, x11, x12, by rw [List.append_nil]; rfl⟩
  | p :: l, T, r, x4, x5, x6, x7, x8, x9, x10, x11, x12, hp, hT, h => by
    simp only [List.length_cons] at hT
    rw [List.map_cons]
    simp only [forD]
    have eu : uTup [4, 5] [.val (cW w), .val (ch shown), .val (hidE hs), .own (T.map tp), x4, x5, x6, x7, x8, x9, x10, x11, x12] (.tup [nI p.1, ch p.2]) = some [.val (cW w), .val (ch shown), .val (hidE hs), .own (T.map tp), .val (nI p.1), .val (ch p.2), x6, x7, x8, x9, x10, x11, x12] := rfl
    rw [eu]
    dsimp only
    have er : dCmp cEqS (dName 5) (fun _ => some (.str (Str.ofString "r"))) [.val (cW w), .val (ch shown), .val (hidE hs), .own (T.map tp), .val (nI p.1), .val (ch p.2), x6, x7, x8, x9, x10, x11, x12] = some (Nat.beq p.2 114) :=
      (dCmp_of rfl (congrArg _ (congrArg _ S_r))).trans (cEq_ch _ _)
    simp only [tiesGo] at h
    have hp1 := hp p List.mem_cons_self
    cases hq : Nat.beq p.2 114 with
    | false =>
      rw [hq] at h er
      dsimp only at h
      have eb : B_ties_2 [.val (cW w), .val (ch shown), .val (hidE hs), .own (T.map tp), .val (nI p.1), .val (ch p.2), x6, x7, x8, x9, x10, x11, x12] = some (.next, [.val (cW w), .val (ch shown), .val (hidE hs), .own (T.map tp), .val (nI p.1), .val (ch p.2), x6, x7, x8, x9, x10, x11, x12]) := by
        unfold B_ties_2
        exact dSeq_of (dIfS_of er (fun q => by cases q) fun _ => rfl) rfl
      rw [eb]
      exact ties_loop hw hh l T r _ _ _ _ _ _ _ _ _ (fun q hq => hp q (List.mem_cons_of_mem _ hq)) (by (apply Nat.le_of_lt; assumption)) h
    | true =>
      rw [hq] at h er
      dsimp only at h
      cases hg : tieG w shown 1 (p.1 + 1) (w.length - (p.1 + 1)) with
      | none => rw [hg] at h; cases h
      | some e =>
        rw [hg] at h
        dsimp only at h
        cases hr : tiesGo w shown l with
        | none => rw [hr] at h; cases h
        | some r' =>
          rw [hr] at h
          cases h
          obtain ⟨rest, he⟩ := tie_head (hs := hs) (w.length - (p.1 + 1)) (p.1 + 1) 1 1 e (Int.le_refl 1) (Int.le_refl 1) hg
          have hlen := ends_len (kindW w shown hs) (List.range' (p.1 + 1) (w.length - (p.1 + 1))) 1 1 []
          obtain ⟨y6, y7, y8, y10, y11, y12, hl⟩ := tie_loop (shown := shown) hw hh (T.map tp) (.val (nI p.1)) (.val (ch p.2)) (List.range' (p.1 + 1) (w.length - (p.1 + 1))) [0] [] 1 1 x10 x11 x12 (fun i hi => by
            obtain ⟨a, b⟩ := List.mem_range'_1.mp hi
            lia) (by simp; omega) (by simp; omega) ⟨rfl, by decide, by decide⟩
          rw [show ((1 : Nat) : Int) = 1 from rfl] at he
          rw [he] at hl
          have es : sRange2 (dBin fAddI (dName 4) (fun _ => some (.int (1)))) (dCall fLen (dCons (dName 0) dNil)) [.val (cW w), .val (ch shown), .val (hidE hs), .own (T.map tp), .val (nI p.1), .val (ch p.2), .val (tx (textC [0])), .val (.int 1), .val (.int 1), .own [], x10, x11, x12] = some ((List.range' (p.1 + 1) (w.length - (p.1 + 1))).map nI) := by
            have e1 : dCall fLen (dCons (dName 0) dNil) [.val (cW w), .val (ch shown), .val (hidE hs), .own (T.map tp), .val (nI p.1), .val (ch p.2), .val (tx (textC [0])), .val (.int 1), .val (.int 1), .own [], x10, x11, x12] = some (nI w.length) := (dCall_of (dOne_of rfl)).trans ((fLen_L (by rw [List.length_map]; exact Nat.le_of_lt (Nat.lt_of_lt_of_le ‹_› (by decide)))).trans (by rw [List.length_map]))
            have e2 : dBin fAddI (dName 4) (fun _ => some (.int (1))) [.val (cW w), .val (ch shown), .val (hidE hs), .own (T.map tp), .val (nI p.1), .val (ch p.2), .val (tx (textC [0])), .val (.int 1), .val (.int 1), .own [], x10, x11, x12] = some (nI (p.1 + 1)) := (dBin_of rfl rfl).trans rfl
            unfold sRange2
            rw [e2]
            dsimp only
            rw [e1]
            exact rangeI2 (by lia) (by exact Nat.lt_of_lt_of_le ‹_› (by decide))
          have eb : B_ties_2 [.val (cW w), .val (ch shown), .val (hidE hs), .own (T.map tp), .val (nI p.1), .val (ch p.2), x6, x7, x8, x9, x10, x11, x12] = some (.next, [.val (cW w), .val (ch shown), .val (hidE hs), .own ((T ++ [(p.1, e)]).map tp), .val (nI p.1), .val (ch p.2), y6, y7, y8, .val (cN (e :: rest)), y10, y11, y12]) := by
            unfold B_ties_2
            refine dSeq_of (dIfS_of er (fun _ => ?_) fun q => by cases q) rfl
            refine dSeq_of (dSet_of (p := tx (textC [0])) (congrArg _ (congrArg _ S_op))) (dSeq_of (dSet_of rfl) (dSeq_of (dSet_of rfl) (dSeq_of (ρ' := [.val (cW w), .val (ch shown), .val (hidE hs), .own (T.map tp), .val (nI p.1), .val (ch p.2), .val (tx (textC [0])), .val (.int 1), .val (.int 1), .own [], x10, x11, x12]) rfl (dSeq_of ((dFor_of es).trans hl) ?_))))
            refine dSeq_of (dApp_of (p := tp (p.1, e)) rfl (dTup_of (dCons_of rfl (dOne_of ((dItem_of rfl rfl).trans rfl))) (Nat.le_of_ble_eq_true rfl)) (by rw [List.length_map]; lia)) ?_
            rw [List.map_append]
            rfl
          rw [eb]
          dsimp only
          obtain ⟨z4, z5, z6, z7, z8, z9, z10, z11, z12, ih⟩ := ties_loop (shown := shown) hw hh l (T ++ [(p.1, e)]) r' (.val (nI p.1)) (.val (ch p.2)) y6 y7 y8 (.val (cN (e :: rest))) y10 y11 y12 (fun q hq => hp q (List.mem_cons_of_mem _ hq)) (by simp; lia) hr
          refine ⟨z4, z5, z6, z7, z8, z9, z10, z11, z12, ih.trans ?_⟩
          rw [List.append_assoc]
          rfl
theorem ties_is {w hs : List Nat} {shown : Nat} {r : List (Nat × Nat)} (hw : w.length < 400) (hh : hs.length + 1 = w.length) (h : tiesL w shown = some r) : F_ties [cW w, ch shown, hidE hs] = some (cT r) := by
  obtain ⟨y4, y5, y6, y7, y8, y9, y10, y11, y12, hl⟩ := ties_loop (w := w) (hs := hs) (shown := shown) (by exact Nat.lt_of_lt_of_le ‹_› (by decide)) hh (enumN 0 w) [] r .unset .unset .unset .unset .unset .unset .unset .unset .unset (fun p hp => by
    obtain ⟨_, h2, _⟩ := enum_mem hp
    lia) (by rw [enum_len]; simp; exact Nat.lt_of_lt_of_le ‹_› (by decide)) h
  unfold F_ties callDef
  show (match D_ties [.val (cW w), .val (ch shown), .val (hidE hs), .unset, .unset, .unset, .unset, .unset, .unset, .unset, .unset, .unset, .unset] with | some (.ret p, _) => some p | some (.next, _) => some .none | _ => none) = _
  have : ∃ ρ', D_ties [.val (cW w), .val (ch shown), .val (hidE hs), .unset, .unset, .unset, .unset, .unset, .unset, .unset, .unset, .unset, .unset] = some (.ret (cT r), ρ') := by
    unfold D_ties
    refine ⟨[.val (cW w), .val (ch shown), .val (hidE hs), .val (cT r), y4, y5, y6, y7, y8, y9, y10, y11, y12], ?_⟩
    refine dSeq_of (ρ' := [.val (cW w), .val (ch shown), .val (hidE hs), .own [], .unset, .unset, .unset, .unset, .unset, .unset, .unset, .unset, .unset]) rfl ?_
    refine dSeq_of ((dFor_of (l := (enumN 0 w).map fun p => PV.tup [nI p.1, ch p.2]) ?_).trans hl) (dSeq_ret (dRet_of rfl))
    show some (enumFrom 0 (w.map ch)) = _
    rw [enum_is]
  obtain ⟨ρ', e⟩ := this
  rw [e]
end Mine
end

section
open PySem PySem.W PyProof.Rows PySem.Builtin
set_option Elab.async false
set_option autoImplicit false
set_option linter.unusedVariables false
set_option linter.unusedSimpArgs false
set_option maxRecDepth 100000
namespace Mine
noncomputable abbrev cI2 (l : List Int) : PV := .list (l.map .int)
theorem slice_len (a b c : Int) (h0 : 0 < c) (h1 : c ≤ 100) (h2 : b - a ≤ 800) : (sliceRange a b c).length ≤ 1000 := by
  unfold sliceRange
  simp only [List.length_map, List.length_range]
  rw [if_pos (by assumption)]
  split
  · have : (b - a + c - 1) / c ≤ b - a + c - 1 := Int.ediv_le_self c (by lia)
    omega
  · decide
theorem pick_ints (xs : List Int) (k c : Int) (hk : 0 ≤ k) (h0 : 0 < c) (h1 : c ≤ 100) (hx : xs.length ≤ 700) : ∃ ys : List Int, pickP (xs.map .int) (some k) none (some c) = ys.map .int ∧ ys.length ≤ 1000 := by
  unfold pickP
  refine ⟨(sliceRange (sliceBounds (some k) none (some c) (xs.map PV.int).length).1 (sliceBounds (some k) none (some c) (xs.map PV.int).length).2.1 (sliceBounds (some k) none (some c) (xs.map PV.int).length).2.2).filterMap (xs[·]?), ?_, ?_⟩
  · rw [List.map_filterMap]
    congr 1
    funext i
    simp
  · refine Nat.le_trans (List.length_filterMap_le _ _) ?_
    unfold sliceBounds
    simp only [Option.getD_some, List.length_map]
    refine slice_len _ _ _ h0 h1 ?_
    rw [if_pos (by assumption), if_pos (by assumption), if_neg (by lia)]
    omega
theorem fmodN (x : Int) : ∃ n : Nat, x.fmod 1000000 = Int.ofNat n ∧ n < 1000000 := by
  have h1 := Int.fmod_nonneg_of_pos x (show (0 : Int) < 1000000 by decide)
  have h2 := Int.fmod_lt_of_pos x (show (0 : Int) < 1000000 by decide)
  refine ⟨(x.fmod 1000000).toNat, ?_, ?_⟩
  · show _ = (((x.fmod 1000000).toNat : Nat) : Int)
    lia
  · lia
theorem mods_are : ∀ ys : List Int, ∃ ms : List Nat, ys.map (fun x => PV.int (x.fmod 1000000)) = ms.map nI ∧ ms.length = ys.length ∧ ∀ m ∈ ms, m < 1000000
  | [] => ⟨[], rfl, rfl, fun m h => by cases h⟩
  | y :: ys => by
    obtain ⟨ms, h1, h2, h3⟩ := mods_are ys
    obtain ⟨n, hn, hl⟩ := fmodN y
    refine ⟨n :: ms, ?_, by simp [h2], fun m hm => ?_⟩
    · rw [List.map_cons, List.map_cons, h1, hn]
    · rcases List.mem_cons.mp hm with rfl | hm
      · exact hl
      · exact h3 m hm
theorem sumOk_N : ∀ ms : List Nat, (∀ m ∈ ms, m < 1000000) → sumOk (ms.map Int.ofNat) = true
  | [], _ => rfl
  | m :: ms, h => by
    simp only [List.map_cons, sumOk, Bool.and_eq_true]
    have := h m List.mem_cons_self
    exact ⟨Nat.blt_eq.mpr (by show m < _; exact Nat.lt_of_lt_of_le ‹_› (by decide)), sumOk_N ms fun x hx => h x (List.mem_cons_of_mem _ hx)⟩
theorem sum_N : ∀ ms : List Nat, (ms.map Int.ofNat).sum = Int.ofNat ms.sum
  | [] => rfl
  | m :: ms => by
    rw [List.map_cons, List.sum_cons, List.sum_cons, sum_N ms]
    rfl
theorem fSum_N {ms : List Nat} (h : ∀ m ∈ ms, m < 1000000) (hl : ms.length ≤ 1000000) : fSum [cN ms] = some (nI ms.sum) := by
  unfold fSum cN
  dsimp only
  rw [ints_N]
  dsimp only
  rw [sumOk_N ms h]
  dsimp only
  rw [Nat.ble_eq.mpr (by rw [List.length_map]; exact hl)]
  dsimp only
  rw [sum_N]
theorem pow10 : fPowI (.int 10) (.int 6) = some (.int 1000000) := rfl
section
variable {xs : List Int} {plain : List Nat} {size : Nat}
theorem law2 (hx : xs.length ≤ 700) (h1 : 1 < size) (h2 : size ≤ 50) (k : Nat) (x1 : Slot) : ∃ ms : List Nat, C_law_2 [.val (nI k), x1, .val (cI2 xs), .val (nI size)] = some (cN ms) ∧ (∀ m ∈ ms, m < 1000000) ∧ ms.length ≤ 1000 := by
  obtain ⟨ys, hy, hl⟩ := pick_ints xs (Int.ofNat k) (Int.ofNat size - 1) (Int.natCast_nonneg k) (by show (0 : Int) < (size : Int) - 1; lia) (by show (size : Int) - 1 ≤ 100; lia) hx
  obtain ⟨ms, hm, hml, hlt⟩ := mods_are ys
  refine ⟨ms, ?_, hlt, by lia⟩
  unfold C_law_2
  have e1 : dSlice (dName 2) (dPint (dName 0)) dPno (dPint (dBin fSubI (dName 3) (fun _ => some (.int (1))))) [.val (nI k), x1, .val (cI2 xs), .val (nI size)] = some (.list (ys.map .int)) := by
    refine (dSlice_of (p := cI2 xs) (lo := some (Int.ofNat k)) (hi := none) (st := some (Int.ofNat size - 1)) rfl rfl rfl rfl).trans ?_
    unfold fSlice
    dsimp only
    have hz : decide (Int.ofNat size - 1 = 0) = false := decide_eq_false (by show ¬ ((size : Int) - 1 = 0); lia)
    rw [hz]
    dsimp only
    have hs : small (xs.map PV.int).length = true := Nat.ble_eq.mpr (by rw [List.length_map]; exact Nat.le_trans ‹_› (by decide))
    rw [hs]
    dsimp only
    rw [hy]
  have e0 : sList (dSlice (dName 2) (dPint (dName 0)) dPno (dPint (dBin fSubI (dName 3) (fun _ => some (.int (1)))))) [.val (nI k), x1, .val (cI2 xs), .val (nI size)] = some (ys.map .int) := by
    unfold sList; rw [e1]
  refine (dComp_of (qs := ms.map nI) e0 (by rw [List.length_map]; exact Nat.le_trans ‹_› (by decide)) ?_)
  rw [← hm]
  refine (compD_all PV.int (fun _ => true) (fun x => PV.int (x.fmod 1000000)) (fun ρ => ∃ x, ρ = [x]) ys (fun a _ ρ hρ => ?_) _ ⟨.unset, rfl⟩).trans (by rw [List.filter_eq_self.mpr (fun _ _ => rfl)])
  obtain ⟨x, rfl⟩ := hρ
  exact ⟨[.val (.int a)], rfl, ⟨_, rfl⟩, rfl, fun _ => (dBin_of rfl ((dBin_of rfl rfl).trans pow10)).trans rfl⟩
theorem compD_map {α : Type} {upd : List Slot → PV → Option (List Slot)} {t : DenB} {d : Den} (enc : α → PV) (R : α → PV → Prop) (Inv : List Slot → Prop) : ∀ (xs : List α), (∀ a ∈ xs, ∀ ρ, Inv ρ → ∃ ρ₁ q, upd ρ (enc a) = some ρ₁ ∧ Inv ρ₁ ∧ t ρ₁ = some true ∧ d ρ₁ = some q ∧ R a q) →
    ∀ ρ, Inv ρ → ∃ qs, compD upd t d (xs.map enc) ρ = some qs ∧ qs.length = xs.length ∧ ∀ q ∈ qs, ∃ a ∈ xs, R a q
  | [], _, ρ, _ => ⟨[], rfl, rfl, fun q h => by cases h⟩
  | a :: xs, h, ρ, hi => by
    obtain ⟨ρ₁, q, h1, h2, h3, h4, h5⟩ := h a List.mem_cons_self ρ hi
    obtain ⟨qs, e, l, m⟩ := compD_map enc R Inv xs (fun b hb => h b (List.mem_cons_of_mem _ hb)) ρ₁ h2
    refine ⟨q :: qs, ?_, by simp [l], fun p hp => ?_⟩
    · rw [List.map_cons, compD_cons h1 h3 (fun _ => h4) e]; rfl
    · rcases List.mem_cons.mp hp with rfl | hp
      · exact ⟨a, List.mem_cons_self, h5⟩
      · obtain ⟨b, hb, r⟩ := m p hp
        exact ⟨b, List.mem_cons_of_mem _ hb, r⟩
theorem all_nats : ∀ qs : List PV, (∀ q ∈ qs, ∃ n : Nat, q = nI n) → ∃ ns : List Nat, qs = ns.map nI
  | [], _ => ⟨[], rfl⟩
  | q :: qs, h => by
    obtain ⟨n, hn⟩ := h q List.mem_cons_self
    obtain ⟨ns, e⟩ := all_nats qs fun p hp => h p (List.mem_cons_of_mem _ hp)
    exact ⟨n :: ns, by rw [hn, e]; rfl⟩
/-- the numbers: no more is needed of them than that they are naturals -/
theorem law1 (hx : xs.length ≤ 700) (h1 : 1 < size) (h2 : size ≤ 50) (hp : size - 1 ≤ plain.length) (hpl : plain.length < 900) {x3 x4 x5 x6 x7 x8 x9 x10 x11 x12 x13 x14 x15 x16 x17 x18 : Slot} :
    ∃ ns : List Nat, C_law_1 [.val (cI2 xs), .val (nI size), .val (cN plain), x3, x4, x5, x6, x7, x8, x9, x10, x11, x12, x13, x14, x15, x16, x17, x18] = some (cN ns) ∧ ns.length = size - 1 := by
  unfold C_law_1
  have e0 : sRange1 (dBin fSubI (dName 1) (fun _ => some (.int (1)))) [.val (cI2 xs), .val (nI size), .val (cN plain), x3, x4, x5, x6, x7, x8, x9, x10, x11, x12, x13, x14, x15, x16, x17, x18] = some ((List.range (size - 1)).map nI) := by
    unfold sRange1
    have : dBin fSubI (dName 1) (fun _ => some (.int (1))) [.val (cI2 xs), .val (nI size), .val (cN plain), x3, x4, x5, x6, x7, x8, x9, x10, x11, x12, x13, x14, x15, x16, x17, x18] = some (nI (size - 1)) := by
      refine (dBin_of rfl rfl).trans ?_
      show some (PV.int (Int.ofNat size - 1)) = some (PV.int (Int.ofNat (size - 1)))
      congr 2
      show (size : Int) - 1 = ((size - 1 : Nat) : Int)
      lia
    rw [this]
    exact rangeI_N (by lia)
  obtain ⟨qs, hq, hl, hm⟩ := compD_map (upd := uName 0) (t := dYes) (d := dBin fAddI (dItem (dName 1) (dName 0)) (dCall fSum (dCons C_law_2 dNil))) nI (fun _ q => ∃ n : Nat, q = nI n) (fun ρ => ∃ x, ρ = [x, .val (cN plain), .val (cI2 xs), .val (nI size)]) (List.range (size - 1)) (fun k hk ρ hρ => by
    obtain ⟨x, rfl⟩ := hρ
    obtain ⟨ms, e2, e3, e4⟩ := law2 (xs := xs) hx h1 h2 k (.val (cN plain))
    have hk' : k < plain.length := by have := List.mem_range.mp hk; (apply Nat.le_trans <;> assumption)
    exact ⟨[.val (nI k), .val (cN plain), .val (cI2 xs), .val (nI size)], nI (plain.getD k 0 + ms.sum), rfl, ⟨_, rfl⟩, rfl, (dBin_of ((dItem_of rfl rfl).trans (item_N hk' (by exact Nat.lt_of_lt_of_le ‹_› (by decide)))) ((dCall_of (dOne_of e2)).trans (fSum_N e3 (by exact Nat.le_trans ‹_› (by decide))))).trans rfl, _, rfl⟩) [.unset, .val (cN plain), .val (cI2 xs), .val (nI size)] ⟨_, rfl⟩
  obtain ⟨ns, rfl⟩ := all_nats qs fun q hq => by
    obtain ⟨a, _, r⟩ := hm q hq
    exact r
  rw [List.length_range, List.length_map] at hl
  exact ⟨ns, dComp_of e0 (by rw [List.length_map, List.length_range]; lia) hq, hl⟩
end
/- the hidden signs -/
noncomputable def kindsL : List (List Nat) := [[92, 41], [34, 41, 34], [92, 40], [34, 40, 34], [92, 34], [34, 92, 34, 41, 34], [92, 92]]
theorem kinds_at (j : Nat) (h : j < 7) : kindsL.getD j [] = chunkL (j + 2) := by
  match j, h with
  | 0, _ => rfl
  | 1, _ => rfl
  | 2, _ => rfl
  | 3, _ => rfl
  | 4, _ => rfl
  | 5, _ => rfl
  | 6, _ => rfl
theorem divN (a b : Nat) (hb : Nat.blt b 1073741824 = true) (h0 : 0 < b) : fDivI (nI a) (nI b) = some (nI (a / b)) := by
  cases b with
  | zero => lia
  | succ b =>
    have : fDivI (nI a) (nI (b + 1)) = some (.int ((Int.ofNat a).fdiv (Int.ofNat (b + 1)))) := by
      unfold fDivI
      dsimp only
      show (match Nat.blt (b + 1) 1073741824 with | true => some (PV.int ((Int.ofNat a).fdiv (Int.ofNat (b + 1)))) | false => none) = _
      rw [hb]
    rw [this]
    congr 2
    exact (Int.ofNat_fdiv a (b + 1)).symm
theorem law3 {ns : List Nat} (hn : ns.length < 900) {x0 x1 x2 x4 x6 x7 x8 x9 x10 x11 x12 x13 x14 x15 x16 x17 x18 : Slot} :
    C_law_3 [x0, x1, x2, .val (cN ns), x4, .val (cR kindsL), x6, x7, x8, x9, x10, x11, x12, x13, x14, x15, x16, x17, x18] = some (cR ((ns.map fun n => n / 6 % 7).map fun j => chunkL (j + 2))) := by
  unfold C_law_3
  have ez : cR ((ns.map fun n => n / 6 % 7).map fun j => chunkL (j + 2)) = .list (ns.map fun n => tx (chunkL (n / 6 % 7 + 2))) := by
    unfold cR; rw [List.map_map, List.map_map]; rfl
  rw [ez]
  refine dComp_of (l := ns.map nI) rfl (by rw [List.length_map]; exact Nat.le_of_lt (Nat.lt_of_lt_of_le ‹_› (by decide))) ?_
  refine (compD_all nI (fun _ => true) (fun n => tx (chunkL (n / 6 % 7 + 2))) (fun ρ => ∃ x, ρ = [x, .val (cR kindsL)]) ns (fun a _ ρ hρ => ?_) _ ⟨.unset, rfl⟩).trans (by rw [List.filter_eq_self.mpr (fun _ _ => rfl)])
  obtain ⟨x, rfl⟩ := hρ
  refine ⟨[.val (nI a), .val (cR kindsL)], rfl, ⟨_, rfl⟩, rfl, fun _ => ?_⟩
  have hlt : a / 6 % 7 < 7 := Nat.mod_lt _ (by exact Nat.succ_pos _)
  refine (dItem_of rfl ((dBin_of ((dBin_of rfl rfl).trans (divN a 6 rfl (by exact Nat.succ_pos _))) rfl).trans (modN (by exact Nat.succ_pos _)))).trans ((item_R (w := kindsL) hlt (by decide)).trans ?_)
  rw [kinds_at _ hlt]
end Mine
end

section
open PySem PySem.W PyProof.Rows PySem.Builtin
set_option Elab.async false
set_option autoImplicit false
set_option linter.unusedVariables false
set_option linter.unusedSimpArgs false
set_option maxRecDepth 100000
namespace Mine
theorem S_gb : Str.ofString "gb" = ⟨#[103, 98]⟩ := by decide +kernel
theorem S_bg : Str.ofString "bg" = ⟨#[98, 103]⟩ := by decide +kernel
theorem law4 {w hs : List Nat} {tg tb : List (Nat × Nat)} (hw : w.length < 400) (hh : hs.length + 1 = w.length) (hg : tiesL w 103 = some tg) (hb : tiesL w 98 = some tb) {x0 x1 x2 x3 x5 x7 x8 x9 x10 x11 x12 x13 x14 x15 x16 x17 x18 : Slot} :
    C_law_4 [x0, x1, x2, x3, .val (cW w), x5, .val (hidE hs), x7, x8, x9, x10, x11, x12, x13, x14, x15, x16, x17, x18] = some (.list [cT tg, cT tb]) := by
  unfold C_law_4
  have e0 : sStr (fun _ => some (.str (Str.ofString "gb"))) [x0, x1, x2, x3, .val (cW w), x5, .val (hidE hs), x7, x8, x9, x10, x11, x12, x13, x14, x15, x16, x17, x18] = some [ch 103, ch 98] := by
    simp only [sStr, S_gb]; rfl
  refine dComp_of e0 (Nat.le_of_ble_eq_true rfl) (compD_cons (ρ₁ := [.val (ch 103), .val (hidE hs), .val (cW w)]) (b := true) rfl rfl (fun _ => (dCall_of (dCons_of rfl (dCons_of rfl (dOne_of rfl)))).trans (ties_is hw hh hg))
    (compD_cons (ρ₁ := [.val (ch 98), .val (hidE hs), .val (cW w)]) (b := true) rfl rfl (fun _ => (dCall_of (dCons_of rfl (dCons_of rfl (dOne_of rfl)))).trans (ties_is hw hh hb)) rfl))
theorem okD_TT (a b : List (Nat × Nat)) : okD (.list [cT a, cT b]) = true := by
  have h1 := okT_depth a
  have h2 := okT_depth b
  simp only [okD, noFlt, noFlts, okT_flt, Bool.true_and, Bool.and_self, SeqAt.shaped, toPy, toPys, PyData.canLay0, PyData.canLayAll0, okT_can, PyData.depth, PyData.depthAll, decide_eq_true_eq]
  lia
theorem in_ties (a b : List (Nat × Nat)) : cInL (.list []) (.list [cT a, cT b]) = some (a.isEmpty || b.isEmpty) := by
  unfold cInL
  dsimp only
  rw [okD_nil, okD_TT]
  dsimp only
  have h : ∀ l : List (Nat × Nat), PyData.eqv (toPy (cT l)) (toPy (.list [])) = l.isEmpty := eqv_nilT
  simp only [toPys, List.any_cons, List.any_nil, Bool.or_false]
  rw [h, h]
/- the last places of a head's ties -/
noncomputable def headEnds (l : List (Nat × Nat)) (place : Nat) : List Nat := (l.filter fun t => Nat.beq t.1 place).map (·.2)
theorem ends_inner (place : Nat) (r : Slot) : ∀ (l : List (Nat × Nat)) (a b : Slot), ∃ a' b', compG (uTup [1, 2]) (dCmp cEqI (dName 1) (dName 3)) (dOne (dName 2)) (l.map tp) [r, a, b, .val (nI place)] = some ((headEnds l place).map nI, [r, a', b', .val (nI place)])
  | [], a, b => ⟨a, b, rfl⟩
  | t :: l, a, b => by
    obtain ⟨a', b', ih⟩ := ends_inner place r l (.val (nI t.1)) (.val (nI t.2))
    refine ⟨a', b', ?_⟩
    rw [List.map_cons]
    simp only [compG]
    have eu : uTup [1, 2] [r, a, b, .val (nI place)] (tp t) = some [r, .val (nI t.1), .val (nI t.2), .val (nI place)] := rfl
    have et : dCmp cEqI (dName 1) (dName 3) [r, .val (nI t.1), .val (nI t.2), .val (nI place)] = some (Nat.beq t.1 place) := (dCmp_of rfl rfl).trans (cEq_N _ _)
    rw [eu]
    dsimp only
    rw [et]
    have ed : dOne (dName 2) [r, .val (nI t.1), .val (nI t.2), .val (nI place)] = some ([nI t.2], [r, .val (nI t.1), .val (nI t.2), .val (nI place)]) := rfl
    cases hb : Nat.beq t.1 place with
    | true =>
      dsimp only
      rw [ed]
      dsimp only
      rw [ih]
      dsimp only
      have : headEnds (t :: l) place = t.2 :: headEnds l place := by unfold headEnds; rw [List.filter_cons_of_pos (p := fun t : Nat × Nat => Nat.beq t.1 place) (a := t) hb]; rfl
      rw [this]
      rfl
    | false =>
      dsimp only
      rw [ih]
      have : headEnds (t :: l) place = headEnds l place := by unfold headEnds; rw [List.filter_cons_of_neg (p := fun t : Nat × Nat => Nat.beq t.1 place) (a := t) (by show ¬ (Nat.beq t.1 place = true); rw [hb]; exact Bool.false_ne_true)]
      rw [this]
theorem law5 {tg tb : List (Nat × Nat)} {place : Nat} (hl : tg.length + tb.length ≤ 1000) {x0 x1 x2 x3 x4 x5 x6 x7 x9 x11 x12 x13 x14 x15 x16 x17 x18 : Slot} :
    C_law_5 [x0, x1, x2, x3, x4, x5, x6, x7, .val (.list [cT tg, cT tb]), x9, .val (nI place), x11, x12, x13, x14, x15, x16, x17, x18] = some (cN (headEnds tg place ++ headEnds tb place)) := by
  unfold C_law_5 dComp2
  have e0 : sList (dName 8) [x0, x1, x2, x3, x4, x5, x6, x7, .val (.list [cT tg, cT tb]), x9, .val (nI place), x11, x12, x13, x14, x15, x16, x17, x18] = some [cT tg, cT tb] := rfl
  rw [e0]
  dsimp only
  have es : startC 3 [10] [x0, x1, x2, x3, x4, x5, x6, x7, .val (.list [cT tg, cT tb]), x9, .val (nI place), x11, x12, x13, x14, x15, x16, x17, x18] = [.unset, .unset, .unset, .val (nI place)] := rfl
  rw [es]
  obtain ⟨a1, b1, h1⟩ := ends_inner place (.val (cT tg)) tg .unset .unset
  obtain ⟨a2, b2, h2⟩ := ends_inner place (.val (cT tb)) tb a1 b1
  have key : compG (uName 0) dYes (dInner (sList (dName 0)) (uTup [1, 2]) (dCmp cEqI (dName 1) (dName 3)) (dOne (dName 2))) [cT tg, cT tb] [.unset, .unset, .unset, .val (nI place)] = some ((headEnds tg place ++ headEnds tb place).map nI, [.val (cT tb), a2, b2, .val (nI place)]) := by
    have u1 : uName 0 [.unset, .unset, .unset, .val (nI place)] (cT tg) = some [.val (cT tg), .unset, .unset, .val (nI place)] := rfl
    have u2 : uName 0 [.val (cT tg), a1, b1, .val (nI place)] (cT tb) = some [.val (cT tb), a1, b1, .val (nI place)] := rfl
    have i1 : dInner (sList (dName 0)) (uTup [1, 2]) (dCmp cEqI (dName 1) (dName 3)) (dOne (dName 2)) [.val (cT tg), .unset, .unset, .val (nI place)] = some ((headEnds tg place).map nI, [.val (cT tg), a1, b1, .val (nI place)]) := h1
    have i2 : dInner (sList (dName 0)) (uTup [1, 2]) (dCmp cEqI (dName 1) (dName 3)) (dOne (dName 2)) [.val (cT tb), a1, b1, .val (nI place)] = some ((headEnds tb place).map nI, [.val (cT tb), a2, b2, .val (nI place)]) := h2
    simp only [compG, dYes]
    rw [u1]
    dsimp only
    rw [i1]
    dsimp only
    rw [u2]
    dsimp only
    rw [i2]
    dsimp only
    rw [List.append_nil, List.map_append]
  rw [key]
  dsimp only
  have hlen : (headEnds tg place).length + (headEnds tb place).length ≤ 1000 := by
    unfold headEnds
    rw [List.length_map, List.length_map]
    have := List.length_filter_le (fun t : Nat × Nat => Nat.beq t.1 place) tg
    have := List.length_filter_le (fun t : Nat × Nat => Nat.beq t.1 place) tb
    lia
  rw [Nat.ble_eq.mpr (by rw [List.length_map, List.length_append]; exact Nat.le_trans ‹_› (by decide))]
noncomputable def minOf : List Nat → Option Nat
  | [] => none
  | a :: l => some (minN a l)
noncomputable def wayOf (tg tb : List (Nat × Nat)) (p : Nat × Nat) : Option Nat := match Nat.beq p.2 114 with
  | true => minOf (headEnds tg p.1 ++ headEnds tb p.1)
  | false => match Nat.beq p.2 103 with
    | true => wayL tg tb p.1
    | false => match Nat.beq p.2 98 with
      | true => wayL tb tg p.1
      | false => none
noncomputable def waysGo (tg tb : List (Nat × Nat)) : List (Nat × Nat) → Option (List Nat)
  | [] => some []
  | p :: l => match wayOf tg tb p with
    | some r => match waysGo tg tb l with
      | some rs => some (r :: rs)
      | none => none
    | none => none
theorem minOf_is {l : List Nat} {r : Nat} (h : minOf l = some r) : fMin [cN l] = some (nI r) := by
  cases l with
  | nil => cases h
  | cons a l =>
    simp only [minOf] at h
    cases h
    exact fMin_N a l
theorem idx_gb (x y : Str) (k : Nat) (h : Txt.find x y = Int.ofNat k) : fIdxS [.str x, .str y] = some (nI k) := by
  unfold fIdxS
  dsimp only
  rw [h]
theorem gb_g : fIdxS [.str (Str.ofString "gb"), ch 103] = some (nI 0) := idx_gb _ _ 0 (by decide +kernel)
theorem gb_b : fIdxS [.str (Str.ofString "gb"), ch 98] = some (nI 1) := idx_gb _ _ 1 (by decide +kernel)
theorem bg_g : fIdxS [.str (Str.ofString "bg"), ch 103] = some (nI 1) := idx_gb _ _ 1 (by decide +kernel)
theorem bg_b : fIdxS [.str (Str.ofString "bg"), ch 98] = some (nI 0) := idx_gb _ _ 0 (by decide +kernel)
theorem ways_loop {tg tb : List (Nat × Nat)} (hg : tg.length ≤ 400) (hb : tb.length ≤ 400) {x0 x1 x2 x3 x4 x5 x6 x11 x12 x13 x14 x15 x16 x17 x18 : Slot} : ∀ (l : List (Nat × Nat)) (T r : List Nat) (x7 x10 : Slot), T.length + l.length ≤ 1000 → waysGo tg tb l = some r →
    ∃ y7 y10, forD (uTup [10, 7]) B_law_1 (l.map fun p => PV.tup [nI p.1, ch p.2]) [x0, x1, x2, x3, x4, x5, x6, x7, .val (.list [cT tg, cT tb]), .own (T.map nI), x10, x11, x12, x13, x14, x15, x16, x17, x18] =
      some (.next, [x0, x1, x2, x3, x4, x5, x6, y7, .val (.list [cT tg, cT tb]), .own ((T ++ r).map nI), y10, x11, x12, x13, x14, x15, x16, x17, x18])
  | [], T, r, x7, x10, hl, h => by
    simp only [waysGo] at h
    cases h
    exact ⟨x7, x10, by rw [List.append_nil]; rfl⟩
  | p :: l, T, r, x7, x10, hl, h => by
    simp only [List.length_cons] at hl
    simp only [waysGo] at h
    cases hw : wayOf tg tb p with
    | none => rw [hw] at h; cases h
    | some a =>
      rw [hw] at h
      dsimp only at h
      cases hr : waysGo tg tb l with
      | none => rw [hr] at h; cases h
      | some rs =>
        rw [hr] at h
        cases h
        rw [List.map_cons]
        simp only [forD]
        have eu : uTup [10, 7] [x0, x1, x2, x3, x4, x5, x6, x7, .val (.list [cT tg, cT tb]), .own (T.map nI), x10, x11, x12, x13, x14, x15, x16, x17, x18] (.tup [nI p.1, ch p.2]) = some [x0, x1, x2, x3, x4, x5, x6, .val (ch p.2), .val (.list [cT tg, cT tb]), .own (T.map nI), .val (nI p.1), x11, x12, x13, x14, x15, x16, x17, x18] := rfl
        rw [eu]
        dsimp only
        have er : dCmp cEqS (dName 7) (fun _ => some (.str (Str.ofString "r"))) [x0, x1, x2, x3, x4, x5, x6, .val (ch p.2), .val (.list [cT tg, cT tb]), .own (T.map nI), .val (nI p.1), x11, x12, x13, x14, x15, x16, x17, x18] = some (Nat.beq p.2 114) :=
          (dCmp_of rfl (congrArg _ (congrArg _ S_r))).trans (cEq_ch _ _)
        have eb : B_law_1 [x0, x1, x2, x3, x4, x5, x6, .val (ch p.2), .val (.list [cT tg, cT tb]), .own (T.map nI), .val (nI p.1), x11, x12, x13, x14, x15, x16, x17, x18] = some (.next, [x0, x1, x2, x3, x4, x5, x6, .val (ch p.2), .val (.list [cT tg, cT tb]), .own ((T ++ [a]).map nI), .val (nI p.1), x11, x12, x13, x14, x15, x16, x17, x18]) := by
          have hT : (T.map nI).length ≤ 16777216 := by rw [List.length_map]; lia
          unfold wayOf at hw
          unfold B_law_1
          refine dSeq_of (dIfS_of er (fun h1 => ?_) fun h1 => ?_) rfl
          · rw [h1] at hw
            refine dSeq_of (dApp_of (p := nI a) rfl ((dCall_of (dOne_of (law5 (by lia)))).trans (minOf_is hw)) hT) ?_
            rw [List.map_append]; rfl
          · rw [h1] at hw
            dsimp only at hw
            refine dSeq_of (dApp_of (p := nI a) rfl ?_ hT) (by rw [List.map_append]; rfl)
            cases h2 : Nat.beq p.2 103 with
            | true =>
              rw [h2] at hw
              dsimp only at hw
              have e3 := Nat.eq_of_beq_eq_true h2
              rw [e3]
              refine (dCall_of (dCons_of (p := cT tg) ((dItem_of rfl ((dMeth_of rfl rfl (dOne_of rfl)).trans gb_g)).trans rfl) (dCons_of (p := cT tb) ((dItem_of rfl ((dMeth_of rfl rfl (dOne_of rfl)).trans bg_g)).trans rfl) (dOne_of rfl)))).trans (way_is (by exact Nat.le_trans ‹_› (by decide)) (by exact Nat.le_trans ‹_› (by decide)) hw)
            | false =>
              rw [h2] at hw
              dsimp only at hw
              cases h4 : Nat.beq p.2 98 with
              | false => rw [h4] at hw; cases hw
              | true =>
                rw [h4] at hw
                dsimp only at hw
                have e3 := Nat.eq_of_beq_eq_true h4
                rw [e3]
                refine (dCall_of (dCons_of (p := cT tb) ((dItem_of rfl ((dMeth_of rfl rfl (dOne_of rfl)).trans gb_b)).trans rfl) (dCons_of (p := cT tg) ((dItem_of rfl ((dMeth_of rfl rfl (dOne_of rfl)).trans bg_b)).trans rfl) (dOne_of rfl)))).trans (way_is (by omega) (by omega) hw)
        rw [eb]
        dsimp only
        obtain ⟨y7, y10, ih⟩ := ways_loop hg hb l (T ++ [a]) rs (.val (ch p.2)) (.val (nI p.1)) (by simp; lia) hr
        refine ⟨y7, y10, ih.trans ?_⟩
        rw [List.append_assoc]
        rfl
end Mine
end

section
open PySem PySem.W PyProof.Rows PySem.Builtin PySem.Builtin.Str
set_option Elab.async false
set_option autoImplicit false
set_option linter.unusedVariables false
set_option linter.unusedSimpArgs false
set_option maxRecDepth 100000
namespace Mine
/- a text of lines, split at their ends -/
noncomputable def stepO (s sub : Str) (hi limit : Nat) (st : Array Nat × Nat) (i : Nat) : Array Nat × Nat :=
  if ((st.fst.size < limit ∧ st.snd ≤ i) ∧ i + sub.length ≤ hi) ∧ subAt s sub i = true then (st.fst.push i, i + sub.length) else st
theorem occ_fold (s sub : Str) (hi limit : Nat) : ∀ (l : List Nat) (st : Array Nat × Nat), (forIn l st (StrLaws.occBody s sub hi limit)).run = l.foldl (stepO s sub hi limit) st
  | [], st => rfl
  | a :: l, st => by
    rw [List.forIn_cons, List.foldl_cons, ← occ_fold s sub hi limit l]
    unfold StrLaws.occBody stepO
    split <;> rfl
noncomputable abbrev crlf : Str := ⟨#[13, 10]⟩
theorem subAt_is (x : List Nat) (i : Nat) : subAt ⟨x.toArray⟩ crlf i = ((x.drop i).take 2 == [13, 10]) := by
  rw [StrLaws.subAt_eq]
  rfl
noncomputable def cutsL : Nat → List (List Nat) → List Nat
  | _, [] => []
  | a, r :: rows => (a + r.length) :: cutsL (a + r.length + 2) rows
theorem no_cut {x : List Nat} {hi limit : Nat} : ∀ (r : List Nat) (a : Nat) (st : Array Nat × Nat), plainRow r = true → (∀ k, k < r.length → (x.drop (a + k)).head? = r[k]?) → (List.range' a r.length).foldl (stepO ⟨x.toArray⟩ crlf hi limit) st = st
  | [], a, st, _, _ => rfl
  | c :: r, a, st, hp, hk => by
    rw [List.length_cons, List.range'_succ, List.foldl_cons]
    have hp' := hp
    simp only [plainRow, List.all_cons, Bool.and_eq_true, Bool.not_eq_true'] at hp'
    have h0 := hk 0 (by simp)
    have hs : subAt ⟨x.toArray⟩ crlf a = false := by
      rw [subAt_is]
      apply beq_false_of_ne
      intro e
      simp only [Nat.add_zero, List.getElem?_cons_zero] at h0
      cases hd : x.drop a with
      | nil => rw [hd] at h0; cases h0
      | cons d l =>
        rw [hd] at h0 e
        simp only [List.head?_cons, Option.some.injEq] at h0
        subst h0
        have := (List.cons.inj e).1
        subst this
        have := hp'.1
        cases this
    have e1 : stepO ⟨x.toArray⟩ crlf hi limit st a = st := by
      unfold stepO
      rw [hs]
      simp
    rw [e1]
    refine no_cut r (a + 1) st hp'.2 fun k hk' => ?_
    have := hk (k + 1) (by simp; assumption)
    rw [List.getElem?_cons_succ] at this
    rw [← this]
    congr 2
    exact Nat.add_right_comm _ _ _
theorem cuts_fold {x : List Nat} {limit : Nat} (hlim : x.length < limit) : ∀ (rows : List (List Nat)) (pre : List Nat) (acc : Array Nat), x = pre ++ linesL rows → rows.all plainRow = true → acc.size ≤ pre.length →
    (List.range' pre.length (linesL rows).length).foldl (stepO ⟨x.toArray⟩ crlf x.length limit) (acc, pre.length) = (acc ++ (cutsL pre.length rows).toArray, x.length)
  | [], pre, acc, hx, _, _ => by
    have : x.length = pre.length := by rw [hx]; simp [linesL]
    simp [linesL, cutsL, this]
  | r :: rows, pre, acc, hx, hp, ha => by
    simp only [List.all_cons, Bool.and_eq_true] at hp
    have e : linesL (r :: rows) = r ++ ([13, 10] ++ linesL rows) := by simp [linesL]
    rw [e] at hx ⊢
    have el : (r ++ ([13, 10] ++ linesL rows)).length = r.length + (1 + (1 + (linesL rows).length)) := by simp; lia
    rw [el, ← List.range'_append_1, List.foldl_append]
    rw [no_cut r pre.length (acc, pre.length) hp.1 (fun k hk => by
      rw [List.head?_drop, hx, List.getElem?_append_right (by exact Nat.le_add_right _ _), List.getElem?_append_left (by omega)]
      congr 1
      lia)]
    rw [← List.range'_append_1, List.foldl_append]
    have hxl : x.length = pre.length + (r.length + (1 + (1 + (linesL rows).length))) := by rw [hx, List.length_append, el]
    have hs : subAt ⟨x.toArray⟩ crlf (pre.length + r.length) = true := by
      rw [subAt_is]
      have : x.drop (pre.length + r.length) = [13, 10] ++ linesL rows := by
        rw [hx, ← List.append_assoc]
        exact List.drop_left' (by simp)
      rw [this]
      rfl
    have e1 : stepO ⟨x.toArray⟩ crlf x.length limit (acc, pre.length) (pre.length + r.length) = (acc.push (pre.length + r.length), pre.length + r.length + 2) := by
      unfold stepO
      rw [if_pos ⟨⟨⟨by show acc.size < limit; lia, by show pre.length ≤ pre.length + r.length; exact Nat.le_add_right _ _⟩, by show pre.length + r.length + 2 ≤ x.length; lia⟩, hs⟩]
      rfl
    rw [show List.range' (pre.length + r.length) 1 = [pre.length + r.length] from rfl, List.foldl_cons, List.foldl_nil, e1]
    rw [← List.range'_append_1, List.foldl_append]
    have e2 : stepO ⟨x.toArray⟩ crlf x.length limit (acc.push (pre.length + r.length), pre.length + r.length + 2) (pre.length + r.length + 1) = (acc.push (pre.length + r.length), pre.length + r.length + 2) := by
      unfold stepO
      rw [if_neg]
      intro q
      have : pre.length + r.length + 2 ≤ pre.length + r.length + 1 := q.1.1.2
      (apply Nat.lt_irrefl; assumption)
    rw [show List.range' (pre.length + r.length + 1) 1 = [pre.length + r.length + 1] from rfl, List.foldl_cons, List.foldl_nil, e2]
    have hl2 : (pre ++ (r ++ [13, 10])).length = pre.length + r.length + 2 := by simp; rfl
    have ih := cuts_fold hlim rows (pre ++ (r ++ [13, 10])) (acc.push (pre.length + r.length)) (by rw [hx]; simp) hp.2 (by rw [hl2, Array.size_push]; lia)
    rw [hl2] at ih
    have e3 : pre.length + r.length + 1 + 1 = pre.length + r.length + 2 := rfl
    rw [e3, ih]
    simp [cutsL]
theorem occ_lines {rows : List (List Nat)} (hp : rows.all plainRow = true) : occurrences ⟨(linesL rows).toArray⟩ crlf 0 (linesL rows).length ((linesL rows).length + 1) = cutsL 0 rows := by
  rw [StrLaws.occ_eq, occ_fold]
  have h := cuts_fold (x := linesL rows) (limit := (linesL rows).length + 1) (by exact Nat.lt_succ_self _) rows [] #[] rfl hp (Nat.le_refl _)
  rw [show ([] : List Nat).length = 0 from rfl] at h
  have e : (linesL rows).length + 1 - 0 = (linesL rows).length + 1 := rfl
  rw [e, ← List.range'_append_1, List.foldl_append, h]
  rw [show List.range' (0 + (linesL rows).length) 1 = [0 + (linesL rows).length] from rfl, List.foldl_cons, List.foldl_nil]
  unfold stepO
  rw [if_neg]
  · simp
  · intro q
    have : 0 + (linesL rows).length + 2 ≤ (linesL rows).length := q.1.2
    lia
theorem parts_lines {x : List Nat} : ∀ (rows : List (List Nat)) (pre : List Nat), x = pre ++ linesL rows → StrLaws.partsFrom ⟨x.toArray⟩ 2 pre.length (cutsL pre.length rows) = (rows ++ [[]]).map fun r : List Nat => (⟨r.toArray⟩ : Str)
  | [], pre, hx => by
    have hl : x.length = pre.length := by rw [hx]; simp [linesL]
    show [strSub ⟨x.toArray⟩ pre.length x.toArray.size] = _
    congr 1
    apply ext_str
    show (x.toArray.extract pre.length x.toArray.size).toList = _
    rw [Array.toList_extract]
    simp [hl]
  | r :: rows, pre, hx => by
    have e : linesL (r :: rows) = r ++ ([13, 10] ++ linesL rows) := by simp [linesL]
    rw [e] at hx
    have hl2 : (pre ++ (r ++ [13, 10])).length = pre.length + r.length + 2 := by simp; rfl
    have ih := parts_lines (x := x) rows (pre ++ (r ++ [13, 10])) (by rw [hx]; simp)
    rw [hl2] at ih
    show strSub ⟨x.toArray⟩ pre.length (pre.length + r.length) :: StrLaws.partsFrom ⟨x.toArray⟩ 2 (pre.length + r.length + 2) (cutsL (pre.length + r.length + 2) rows) = _
    rw [ih]
    rw [List.cons_append, List.map_cons]
    congr 1
    apply ext_str
    show (x.toArray.extract pre.length (pre.length + r.length)).toList = _
    rw [Array.toList_extract, hx]
    show List.take _ (List.drop pre.length (pre ++ _)) = r
    rw [List.drop_left' rfl]
    exact List.take_left' (by lia)
theorem split_lines {rows : List (List Nat)} (hp : rows.all plainRow = true) (hne : rows ≠ []) : Txt.split ⟨(linesL rows).toArray⟩ crlf = (rows ++ [[]]).map fun r : List Nat => (⟨r.toArray⟩ : Str) := by
  have hl : (⟨(linesL rows).toArray⟩ : Str).length = (linesL rows).length := by show (linesL rows).toArray.size = _; simp
  have hge : 2 ≤ (linesL rows).length := by
    cases rows with
    | nil => exact absurd rfl hne
    | cons r rows => simp [linesL]; exact Nat.le_add_left _ _
  unfold Txt.split
  rw [hl, occ_lines hp]
  have hk : decide (PySem.Builtin.Str.strKind ⟨(linesL rows).toArray⟩ < PySem.Builtin.Str.strKind crlf) = false := by
    apply decide_eq_false
    have : PySem.Builtin.Str.strKind crlf = 1 := by decide +kernel
    rw [this]
    unfold PySem.Builtin.Str.strKind
    dsimp only
    split <;> (try split) <;> decide
  have hd : decide ((linesL rows).length < crlf.length) = false := decide_eq_false (by show ¬ (_ < 2); (apply Nat.not_lt.mpr; assumption))
  rw [hk, hd]
  rw [if_neg (by simp)]
  have hc : (cutsL 0 rows).isEmpty = false := by
    cases rows with
    | nil => exact absurd rfl hne
    | cons r rows => rfl
  rw [hc, if_neg (by simp), StrLaws.partsBetween_eq]
  exact parts_lines rows [] rfl
end Mine
end

section
open PySem PySem.W PyProof.Rows PySem.Builtin
set_option Elab.async false
set_option autoImplicit false
set_option linter.unusedVariables false
set_option linter.unusedSimpArgs false
set_option maxRecDepth 100000
namespace Mine
noncomputable def enumA {α : Type} : Nat → List α → List (Nat × α)
  | _, [] => []
  | k, a :: l => (k, a) :: enumA (k + 1) l
theorem enumA_is {α : Type} (f : α → PV) : ∀ (k : Nat) (l : List α), enumFrom k (l.map f) = (enumA k l).map fun p => .tup [nI p.1, f p.2]
  | _, [] => rfl
  | k, a :: l => by
    simp only [List.map_cons, enumFrom, enumA]
    rw [enumA_is f (k + 1) l]
    rfl
theorem enumA_snd {α : Type} : ∀ (k : Nat) (l : List α), (enumA k l).map (·.2) = l
  | _, [] => rfl
  | k, a :: l => by simp only [enumA, List.map_cons, enumA_snd (k + 1) l]
theorem enumA_len {α : Type} (k : Nat) (l : List α) : (enumA k l).length = l.length := by
  have := congrArg List.length (enumA_snd k l)
  rwa [List.length_map] at this
theorem enumA_mem {α : Type} {a : Nat × α} : ∀ {k : Nat} {l : List α}, a ∈ enumA k l → k ≤ a.1 ∧ a.1 < k + l.length ∧ a.2 ∈ l
  | k, [], h => by simp [enumA] at h
  | k, b :: l, h => by
    simp only [enumA, List.mem_cons] at h
    rcases h with rfl | h
    · simp
    · obtain ⟨h1, h2, h3⟩ := enumA_mem h
      exact ⟨by (apply Nat.le_of_lt; assumption), by simp only [List.length_cons]; lia, List.mem_cons_of_mem _ h3⟩
theorem S_lf : Str.ofString "\n" = ⟨#[10]⟩ := by decide +kernel
theorem S_cr : Str.ofString "\r" = ⟨#[13]⟩ := by decide +kernel
theorem S_crlf : Str.ofString "\r\n" = ⟨#[13, 10]⟩ := by decide +kernel
/- rows compared -/
noncomputable def eqL : List Nat → List Nat → Bool
  | [], [] => true
  | a :: l, b :: m => match Nat.beq a b with
    | true => eqL l m
    | false => false
  | _, _ => false
noncomputable def eqR : List (List Nat) → List (List Nat) → Bool
  | [], [] => true
  | a :: l, b :: m => match eqL a b with
    | true => eqR l m
    | false => false
  | _, _ => false
theorem eqL_is : ∀ {l m : List Nat}, eqL l m = true → l = m
  | [], [], _ => rfl
  | a :: l, b :: m, h => by
    simp only [eqL] at h
    split at h
    · rename_i e; rw [Nat.eq_of_beq_eq_true e, eqL_is h]
    · cases h
  | [], _ :: _, h => by cases h
  | _ :: _, [], h => by cases h
theorem eqR_is : ∀ {l m : List (List Nat)}, eqR l m = true → l = m
  | [], [], _ => rfl
  | a :: l, b :: m, h => by
    simp only [eqR] at h
    split at h
    · rename_i e; rw [eqL_is e, eqR_is h]
    · cases h
  | [], _ :: _, h => by cases h
  | _ :: _, [], h => by cases h
noncomputable def waysOk (w ways : List Nat) : Bool := Nat.beq ways.length w.length && (ways.all (fun x => Nat.blt x w.length) && (List.range w.length).all fun k => hasN k ways)
theorem idx_lt (k : Nat) : ∀ l : List Nat, hasN k l = true → idxN k l < l.length
  | [], h => by cases h
  | a :: l, h => by
    simp only [hasN] at h
    simp only [idxN, List.length_cons]
    split at h
    · exact Nat.succ_pos _
    · exact Nat.succ_lt_succ (idx_lt k l h)
noncomputable def rowsAt (w ways : List Nat) (step : Nat) : List (List Nat) := (List.range w.length).map fun k => rowL w ways k step
noncomputable def newRow (step last : Nat) (sh : List Nat) (p : Nat × List Nat) : List Nat := match Nat.beq step p.1 with
  | true => sh ++ [46]
  | false => match Nat.beq last p.1 with
    | true => [46]
    | false => p.2
noncomputable def turnL (w ways : List Nat) (rows : List (List Nat)) (step : Nat) : Option (List (List Nat)) :=
  match rows.all (fun r => goodRow r && Nat.ble r.length 100) with
  | false => none
  | true => match rows.map stuff with
    | heard => match eqR heard (rowsAt w ways step) with
      | false => none
      | true => match nextL heard step with
        | none => none
        | some (sh, last) => match Nat.beq step last || !(Nat.ble sh.length 100) with
          | true => none
          | false => some ((enumA 0 heard).map (newRow step last sh))
section
variable {w ways N : List Nat} {rows : List (List Nat)} {n0 step : Nat} {x0 x2 x5 x6 x7 x8 x10 x11 x14 x15 x16 x17 x18 : Slot}
noncomputable def codeE (n0 step k : Nat) : Nat := (n0 / 24 + step + k) % 3
theorem law6 (hn : w.length < 900) (hN : N.length < 900) (h0 : 0 < N.length) {x12 : Slot} :
    C_law_6 [x0, .val (nI w.length), x2, .val (cN N), .val (cW w), x5, x6, x7, x8, .val (cN ways), x10, x11, x12, .val (nI step), x14, x15, x16, x17, x18] = some (cR ((List.range w.length).map fun k => endL (codeE (N.getD 0 0) step k))) := by
  have ez : cR ((List.range w.length).map fun k => endL (codeE (N.getD 0 0) step k)) = .list ((List.range w.length).map fun k => tx (endL (codeE (N.getD 0 0) step k))) := by unfold cR; rw [List.map_map]; rfl
  rw [ez]
  unfold C_law_6
  have e0 : sRange1 (dName 1) [x0, .val (nI w.length), x2, .val (cN N), .val (cW w), x5, x6, x7, x8, .val (cN ways), x10, x11, x12, .val (nI step), x14, x15, x16, x17, x18] = some ((List.range w.length).map nI) := rangeI_N (n := w.length) (by exact Nat.lt_of_lt_of_le ‹_› (by decide))
  refine dComp_of e0 (by rw [List.length_map, List.length_range]; exact Nat.le_of_lt (Nat.lt_of_lt_of_le ‹_› (by decide))) ?_
  refine (compD_all nI (fun _ => true) (fun k => tx (endL (codeE (N.getD 0 0) step k))) (fun ρ => ∃ x, ρ = [x, .val (cN N), .val (nI step)]) (List.range w.length) (fun k _ ρ hρ => ?_) _ ⟨.unset, rfl⟩).trans (by rw [List.filter_eq_self.mpr (fun _ _ => rfl)])
  obtain ⟨x, rfl⟩ := hρ
  refine ⟨[.val (nI k), .val (cN N), .val (nI step)], rfl, ⟨_, rfl⟩, rfl, fun _ => ?_⟩
  have hlt : codeE (N.getD 0 0) step k < 3 := Nat.mod_lt _ (by exact Nat.succ_pos _)
  have el : (dList (dCons (fun _ => some (.str (Str.ofString "\n"))) (dCons (fun _ => some (.str (Str.ofString "\r"))) (dCons (fun _ => some (.str (Str.ofString "\r\n"))) dNil)))) [.val (nI k), .val (cN N), .val (nI step)] = some (cR [[10], [13], [13, 10]]) := by
    refine (dList_of (dCons_of rfl (dCons_of rfl (dCons_of rfl rfl))) (Nat.le_of_ble_eq_true rfl)).trans ?_
    rw [S_lf, S_cr, S_crlf]
    rfl
  have ek : (dBin fModI (dBin fAddI (dBin fAddI (dBin fDivI (dItem (dName 1) (fun _ => some (.int (0)))) (fun _ => some (.int (24)))) (dName 2)) (dName 0)) (fun _ => some (.int (3)))) [.val (nI k), .val (cN N), .val (nI step)] = some (nI (codeE (N.getD 0 0) step k)) := by
    refine (dBin_of (p := nI (N.getD 0 0 / 24 + step + k)) ((dBin_of ((dBin_of ((dBin_of ((dItem_of rfl rfl).trans (item_N (w := N) (k := 0) h0 (by exact Nat.lt_of_lt_of_le ‹_› (by decide)))) rfl).trans (divN _ 24 rfl (by exact Nat.succ_pos _))) rfl).trans rfl) rfl).trans rfl) rfl).trans (modN (n := 3) (by exact Nat.succ_pos _))
  refine (dItem_of el ek).trans ((item_R (w := [[10], [13], [13, 10]]) hlt (by decide)).trans ?_)
  congr 2
  generalize codeE (N.getD 0 0) step k = j at hlt
  match j, hlt with
  | 0, _ => rfl
  | 1, _ => rfl
  | 2, _ => rfl
noncomputable def pairsE (n0 step : Nat) (rows : List (List Nat)) : List (List Nat × Nat) := (enumA 0 rows).map fun p => (p.2, codeE n0 step p.1)
theorem law7 {n : Nat} (hn : n < 900) (hr : rows.length = n) (hs : ∀ r ∈ rows, r.length ≤ 100) (n0 : Nat) {x1 x3 x4 x9 x13 : Slot} :
    C_law_7 [x0, x1, x2, x3, x4, x5, x6, x7, x8, x9, x10, x11, .val (cR rows), x13, .val (cR ((List.range n).map fun k => endL (codeE n0 step k))), x15, x16, x17, x18] = some (cR ((pairsE n0 step rows).map fun p => p.1 ++ endL p.2)) := by
  have ez : cR ((pairsE n0 step rows).map fun p => p.1 ++ endL p.2) = .list ((enumA 0 rows).map fun p => tx (p.2 ++ endL (codeE n0 step p.1))) := by unfold cR pairsE; rw [List.map_map, List.map_map]; rfl
  rw [ez]
  unfold C_law_7
  refine dComp_of (l := (enumA 0 rows).map fun p => PV.tup [nI p.1, tx p.2]) ?_ (by rw [List.length_map, enumA_len]; lia) ?_
  · show some (enumFrom 0 (rows.map tx)) = _
    rw [enumA_is]
  refine (compD_all (fun p : Nat × List Nat => PV.tup [nI p.1, tx p.2]) (fun _ => true) (fun p => tx (p.2 ++ endL (codeE n0 step p.1))) (fun ρ => ∃ x y, ρ = [x, y, .val (cR ((List.range n).map fun k => endL (codeE n0 step k)))]) (enumA 0 rows) (fun p hp ρ hρ => ?_) _ ⟨.unset, .unset, rfl⟩).trans (by rw [List.filter_eq_self.mpr (fun _ _ => rfl)])
  obtain ⟨x, y, rfl⟩ := hρ
  obtain ⟨_, h2, h3⟩ := enumA_mem hp
  have hlt : p.1 < ((List.range n).map fun k => endL (codeE n0 step k)).length := by rw [List.length_map, List.length_range]; lia
  have hg : ((List.range n).map fun k => endL (codeE n0 step k)).getD p.1 [] = endL (codeE n0 step p.1) := by
    have : p.1 < n := by lia
    simp [List.getD_eq_getElem?_getD, this]
  refine ⟨[.val (nI p.1), .val (tx p.2), .val (cR ((List.range n).map fun k => endL (codeE n0 step k)))], rfl, ⟨_, _, rfl⟩, rfl, fun _ => ?_⟩
  refine (dBin_of rfl ((dItem_of rfl rfl).trans (item_R hlt (by rw [List.length_map, List.length_range]; exact Nat.lt_of_lt_of_le ‹_› (by decide))))).trans ?_
  rw [hg]
  have hle : (endL (codeE n0 step p.1)).length ≤ 2 := by unfold endL; split <;> decide
  exact fAdd_tx (by have := hs _ h3; lia)
theorem sent_flat (n0 step : Nat) (rows : List (List Nat)) : ((pairsE n0 step rows).map fun p => p.1 ++ endL p.2).flatten = sentL (pairsE n0 step rows) := by
  unfold sentL; rw [List.flatMap_def]
theorem pairs_fst (n0 step : Nat) (rows : List (List Nat)) : (pairsE n0 step rows).map (·.1) = rows := by
  unfold pairsE
  rw [List.map_map]
  exact enumA_snd 0 rows
theorem sent_len : ∀ (ps : List (List Nat × Nat)), (∀ p ∈ ps, p.1.length ≤ 100) → (sentL ps).length ≤ 102 * ps.length
  | [], _ => Nat.le_refl _
  | p :: ps, h => by
    have ih := sent_len ps fun q hq => h q (List.mem_cons_of_mem _ hq)
    have h1 := h p List.mem_cons_self
    have hle : (endL p.2).length ≤ 2 := by unfold endL; split <;> decide
    have e : sentL (p :: ps) = p.1 ++ endL p.2 ++ sentL ps := rfl
    rw [e, List.length_append, List.length_append, List.length_cons]
    lia
theorem lines_len : ∀ (ps : List (List Nat)), (∀ p ∈ ps, p.length ≤ 101) → (linesL ps).length ≤ 103 * ps.length
  | [], _ => Nat.le_refl _
  | p :: ps, h => by
    have ih := lines_len ps fun q hq => h q (List.mem_cons_of_mem _ hq)
    have h1 := h p List.mem_cons_self
    have e : linesL (p :: ps) = p ++ [13, 10] ++ linesL ps := rfl
    rw [e, List.length_append, List.length_append, List.length_cons]
    simp only [List.length_cons, List.length_nil]
    lia
theorem law8 (hw : w.length < 400) (ok : waysOk w ways = true) {x3 x12 : Slot} (hrow : ∀ r ∈ rowsAt w ways step, r.length ≤ 101) :
    C_law_8 [x0, .val (nI w.length), x2, x3, .val (cW w), x5, x6, x7, x8, .val (cN ways), x10, x11, x12, .val (nI step), x14, x15, x16, x17, x18] = some (cR ((rowsAt w ways step).map fun r => r ++ [13, 10])) := by
  simp only [waysOk, Bool.and_eq_true] at ok
  obtain ⟨o1, o2, o3⟩ := ok
  have o1 := Nat.eq_of_beq_eq_true o1
  have ez : cR ((rowsAt w ways step).map fun r => r ++ [13, 10]) = .list ((List.range w.length).map fun k => tx (rowL w ways k step ++ [13, 10])) := by unfold cR rowsAt; rw [List.map_map, List.map_map]; rfl
  rw [ez]
  unfold C_law_8
  have e0 : sRange1 (dName 1) [x0, .val (nI w.length), x2, x3, .val (cW w), x5, x6, x7, x8, .val (cN ways), x10, x11, x12, .val (nI step), x14, x15, x16, x17, x18] = some ((List.range w.length).map nI) := rangeI_N (n := w.length) (by exact Nat.lt_of_lt_of_le ‹_› (by decide))
  refine dComp_of e0 (by rw [List.length_map, List.length_range]; exact Nat.le_of_lt (Nat.lt_of_lt_of_le ‹_› (by decide))) ?_
  refine (compD_all nI (fun _ => true) (fun k => tx (rowL w ways k step ++ [13, 10])) (fun ρ => ∃ x, ρ = [x, .val (nI step), .val (cN ways), .val (cW w)]) (List.range w.length) (fun k hk ρ hρ => ?_) _ ⟨.unset, rfl⟩).trans (by rw [List.filter_eq_self.mpr (fun _ _ => rfl)])
  obtain ⟨x, rfl⟩ := hρ
  have hk' := List.mem_range.mp hk
  have hh := List.all_eq_true.mp o3 k hk
  refine ⟨[.val (nI k), .val (nI step), .val (cN ways), .val (cW w)], rfl, ⟨_, rfl⟩, rfl, fun _ => ?_⟩
  have hr : (rowL w ways k step).length ≤ 101 := hrow _ (List.mem_map.mpr ⟨k, hk, rfl⟩)
  refine (dBin_of ((dCall_of (dCons_of rfl (dCons_of rfl (dCons_of rfl (dOne_of rfl))))).trans (row_is (by exact Nat.lt_of_lt_of_le ‹_› (by decide)) (by lia) (fun x hx => Nat.blt_eq.mp (List.all_eq_true.mp o2 x hx)) hh (by rw [← o1]; exact idx_lt _ _ hh) hk' (by lia))) rfl).trans ?_
  rw [S_crlf]
  exact fAdd_tx (b := [13, 10]) (by simp only [List.length_cons, List.length_nil]; lia)
theorem lines_flat (l : List (List Nat)) : (l.map fun r => r ++ [13, 10]).flatten = linesL l := by
  unfold linesL; rw [List.flatMap_def]
theorem split_is {l : List (List Nat)} (hp : l.all plainRow = true) (hne : l ≠ []) (hl : (linesL l).length ≤ 1000000) (hl2 : l.length ≤ 1000000) : fSplit [tx (linesL l), .str (Str.ofString "\r\n")] = some (cR (l ++ [[]])) := by
  rw [S_crlf]
  unfold fSplit
  have e1 : Nat.beq (⟨#[13, 10]⟩ : Str).length 0 = false := rfl
  dsimp only
  rw [e1]
  dsimp only
  have hlen : (⟨(linesL l).toArray⟩ : Str).length = (linesL l).length := by show (linesL l).toArray.size = _; simp
  have e2 : small (⟨(linesL l).toArray⟩ : Str).length = true := Nat.ble_eq.mpr (by rw [hlen]; exact Nat.le_trans ‹_› (by decide))
  rw [e2]
  dsimp only
  have ho := occ_lines hp
  have hc : ∀ (l : List (List Nat)) (a : Nat), (cutsL a l).length = l.length := fun l => by
    induction l with
    | nil => intro a; rfl
    | cons r l ih => intro a; simp [cutsL, ih]
  have e3 : small (Builtin.Str.partsBetween ⟨(linesL l).toArray⟩ (Builtin.Str.occurrences ⟨(linesL l).toArray⟩ ⟨#[13, 10]⟩ 0 (⟨(linesL l).toArray⟩ : Str).length ((⟨(linesL l).toArray⟩ : Str).length + 1)) (⟨#[13, 10]⟩ : Str).length).length = true := by
    rw [hlen, ho, length_partsBetween, hc]
    exact Nat.ble_eq.mpr (by exact Nat.lt_of_le_of_lt ‹_› (by decide))
  rw [e3]
  dsimp only
  rw [split_lines hp hne, List.map_map]
  rfl
theorem drop_last (l : List PV) (a : PV) (hl : l.length ≤ 1000000) : fSlice (.list (l ++ [a])) none (some (-1)) none = some (.list l) := by
  unfold fSlice
  dsimp only
  have e2 : small (l ++ [a]).length = true := Nat.ble_eq.mpr (by simp; exact Nat.le_trans ‹_› (by decide))
  rw [e2]
  dsimp only
  congr 2
  unfold pickP sliceBounds sliceRange
  have hlen : (l ++ [a]).length = l.length + 1 := by simp
  simp only [Option.getD_none, hlen]
  have c1 : (1 : Int) > 0 := by decide
  rw [if_pos c1, if_pos c1]
  have e3 : (if (-1 : Int) < 0 then -1 + ((l.length + 1 : Nat) : Int) else -1) = (l.length : Int) := by
    rw [if_pos (by decide)]; lia
  rw [e3]
  have e4 : max 0 (min (l.length : Int) ((l.length + 1 : Nat) : Int)) = (l.length : Int) := by lia
  rw [e4]
  have e4b : (if (1 : Int) > 0 then (l.length : Int) else max (-1) (min (l.length : Int) (((l.length + 1 : Nat) : Int) - 1))) = (l.length : Int) := if_pos c1
  rw [e4b]
  have e5 : (if (0 : Int) < (l.length : Int) then ((l.length : Int) - 0 + 1 - 1) / 1 else 0).toNat = l.length := by
    split
    · rw [Int.ediv_one]; lia
    · lia
  rw [e5]
  have : ∀ n, n ≤ l.length → ((List.range n).map fun k : Nat => (0 + 1 * (k : Int)).toNat).filterMap ((l ++ [a])[·]?) = l.take n := by
    intro n hn
    induction n with
    | zero => rfl
    | succ n ih =>
      rw [List.range_succ, List.map_append, List.filterMap_append, ih (by (apply Nat.le_of_lt; assumption))]
      have e6 : (0 + 1 * (n : Int)).toNat = n := by lia
      have e7 : (l ++ [a])[n]? = some (l[n]'(by assumption)) := by
        rw [List.getElem?_append_left (by assumption)]
        exact List.getElem?_eq_getElem (by assumption)
      simp only [List.map_cons, List.map_nil, e6, List.filterMap_cons, List.filterMap_nil, e7]
      rw [List.take_succ_eq_append_getElem (by assumption)]
  rw [this _ (Nat.le_refl _), List.take_length]
theorem law9 {step last : Nat} {sh : List Nat} {heard : List (List Nat)} (hh : heard.length < 900) {x1 x3 x4 x9 x12 x13 : Slot} :
    C_law_9 [x0, x1, x2, x3, x4, x5, x6, x7, x8, x9, x10, x11, x12, x13, x14, x15, .val (cR heard), x17, .val (.dict [(.int (Int.ofNat step), .str ⟨(sh ++ [46]).toArray⟩), (.int (Int.ofNat last), .str ⟨#[46]⟩)])] = some (cR ((enumA 0 heard).map (newRow step last sh))) := by
  have ez : cR ((enumA 0 heard).map (newRow step last sh)) = .list ((enumA 0 heard).map fun p => tx (newRow step last sh p)) := by unfold cR; rw [List.map_map]; rfl
  rw [ez]
  unfold C_law_9
  refine dComp_of (l := (enumA 0 heard).map fun p => PV.tup [nI p.1, tx p.2]) ?_ (by rw [List.length_map, enumA_len]; exact Nat.le_of_lt (Nat.lt_of_lt_of_le ‹_› (by decide))) ?_
  · show some (enumFrom 0 (heard.map tx)) = _
    rw [enumA_is]
  refine (compD_all (fun p : Nat × List Nat => PV.tup [nI p.1, tx p.2]) (fun _ => true) (fun p => tx (newRow step last sh p)) (fun ρ => ∃ x y, ρ = [x, y, .val (.dict [(.int (Int.ofNat step), .str ⟨(sh ++ [46]).toArray⟩), (.int (Int.ofNat last), .str ⟨#[46]⟩)])]) (enumA 0 heard) (fun p hp ρ hρ => ?_) _ ⟨.unset, .unset, rfl⟩).trans (by rw [List.filter_eq_self.mpr (fun _ _ => rfl)])
  obtain ⟨x, y, rfl⟩ := hρ
  refine ⟨[.val (nI p.1), .val (tx p.2), .val (.dict [(.int (Int.ofNat step), .str ⟨(sh ++ [46]).toArray⟩), (.int (Int.ofNat last), .str ⟨#[46]⟩)])], rfl, ⟨_, _, rfl⟩, rfl, fun _ => ?_⟩
  refine (dMeth_of rfl rfl (dCons_of rfl (dOne_of rfl))).trans ?_
  unfold fGet newRow
  have s1 : ∀ a b : Nat, Spec.same (.int (Int.ofNat a)) (.int (Int.ofNat b)) = Nat.beq a b := fun a b => beq_I a b
  simp only [Spec.lookup, s1]
  cases Nat.beq step p.1 with
  | true => rfl
  | false =>
    cases Nat.beq last p.1 with
    | true => rfl
    | false => rfl
end
end Mine
end

section
open PySem PySem.W PyProof.Rows PySem.Builtin
set_option Elab.async false
set_option autoImplicit false
set_option linter.unusedVariables false
set_option linter.unusedSimpArgs false
set_option maxRecDepth 100000
namespace Mine
theorem dUn_of {is : List Nat} {d : Den} {ρ : List Slot} {ps : List PV} (h : d ρ = some (.tup ps)) (hl : ps.length = is.length) : dUn is d ρ = some (.next, setAll ρ is ps) := by
  unfold dUn; rw [h]; dsimp only [fUn]; rw [hl, Nat.beq_refl]
theorem dDict2_of {k1 v1 k2 v2 : Den} {ρ : List Slot} {a x b y : PV} (h1 : k1 ρ = some a) (h2 : v1 ρ = some x) (h3 : k2 ρ = some b) (h4 : v2 ρ = some y) : dDict2 k1 v1 k2 v2 ρ = fDict2 a x b y := by
  unfold dDict2; rw [h1]; dsimp only; rw [h2]; dsimp only; rw [h3]; dsimp only; rw [h4]
theorem stuff_plain {r : List Nat} (h : plainRow r = true) : plainRow (stuff r) = true := by
  unfold stuff
  split
  · simp only [plainRow, List.all_cons, Bool.and_eq_true] at h ⊢
    exact ⟨rfl, h⟩
  · exact h
theorem stuff_len (r : List Nat) : (stuff r).length ≤ r.length + 1 := by
  unfold stuff
  split
  · simp
  · exact Nat.le_succ _
section
variable {w ways N : List Nat} {rows rows' : List (List Nat)} {step : Nat} {x0 x2 x5 x6 x7 x8 x10 x11 x14 x15 x16 x17 x18 : Slot}
theorem mail_turn (hw : w.length < 400) (hw0 : 0 < w.length) (hN : N.length < 900) (h0 : 0 < N.length) (ok : waysOk w ways = true) (hr : rows.length = w.length) (hs : step < 9) (h : turnL w ways rows step = some rows') :
    ∃ y11 y14 y15 y16 y17 y18, B_law_2 [x0, .val (nI w.length), x2, .val (cN N), .val (cW w), x5, x6, x7, x8, .val (cN ways), x10, x11, .val (cR rows), .val (nI step), x14, x15, x16, x17, x18] =
      some (.next, [x0, .val (nI w.length), x2, .val (cN N), .val (cW w), x5, x6, x7, x8, .val (cN ways), x10, y11, .val (cR rows'), .val (nI step), y14, y15, y16, y17, y18]) ∧ rows'.length = w.length := by
  unfold turnL at h
  cases hg : rows.all (fun r => goodRow r && Nat.ble r.length 100) with
  | false => rw [hg] at h; cases h
  | true =>
  rw [hg] at h
  dsimp only at h
  cases he : eqR (rows.map stuff) (rowsAt w ways step) with
  | false => rw [he] at h; cases h
  | true =>
  rw [he] at h
  dsimp only at h
  have heq := eqR_is he
  cases hn : nextL (rows.map stuff) step with
  | none => rw [hn] at h; cases h
  | some sl =>
  obtain ⟨sh, last⟩ := sl
  rw [hn] at h
  dsimp only at h
  cases hc : (Nat.beq step last || !(Nat.ble sh.length 100)) with
  | true => rw [hc] at h; cases h
  | false =>
  rw [hc] at h
  cases h
  simp only [Bool.or_eq_false_iff, Bool.not_eq_false'] at hc
  have hsh : sh.length ≤ 100 := Nat.le_of_ble_eq_true hc.2
  have hg1 : ∀ r ∈ rows, goodRow r = true ∧ r.length ≤ 100 := fun r hr => by
    have := List.all_eq_true.mp hg r hr
    simp only [Bool.and_eq_true] at this
    exact ⟨this.1, Nat.le_of_ble_eq_true this.2⟩
  have hheard : ∀ r ∈ rows.map stuff, plainRow r = true ∧ r.length ≤ 101 := fun r hr => by
    obtain ⟨q, hq, rfl⟩ := List.mem_map.mp hr
    obtain ⟨a, b⟩ := hg1 q hq
    have := stuff_len q
    exact ⟨stuff_plain (good_plain a), by lia⟩
  have hhl : (rows.map stuff).length = w.length := by rw [List.length_map, hr]
  have hpairs : (pairsE (N.getD 0 0) step rows).all (fun p => goodRow p.1) = true := by
    apply List.all_eq_true.mpr
    intro p hp
    have : p.1 ∈ rows := by
      have hm : p.1 ∈ (pairsE (N.getD 0 0) step rows).map (fun q : List Nat × Nat => q.1) := List.mem_map_of_mem hp
      rw [pairs_fst] at hm
      exact hm
    exact (hg1 _ this).1
  have hplen : (pairsE (N.getD 0 0) step rows).length = w.length := by unfold pairsE; rw [List.length_map, enumA_len, hr]
  have hsl : (sentL (pairsE (N.getD 0 0) step rows)).length ≤ 102 * w.length := by
    rw [← hplen]
    refine sent_len _ fun p hp => ?_
    have : p.1 ∈ rows := by
      have hm : p.1 ∈ (pairsE (N.getD 0 0) step rows).map (fun q : List Nat × Nat => q.1) := List.mem_map_of_mem hp
      rw [pairs_fst] at hm
      exact hm
    exact (hg1 _ this).2
  have hll : (linesL (rows.map stuff)).length ≤ 103 * w.length := by
    rw [← hhl]
    exact lines_len _ fun p hp => (hheard p hp).2
  have hplain : (rows.map stuff).all plainRow = true := List.all_eq_true.mpr fun r hr => (hheard r hr).1
  have hne : rows.map stuff ≠ [] := fun q => by rw [q] at hhl; simp at hhl; lia
  refine ⟨.val (nI last), .val (cR ((List.range w.length).map fun k => endL (codeE (N.getD 0 0) step k))), .val (tx (linesL (rows.map stuff))), .val (cR (rows.map stuff)), .val (tx sh), .val (.dict [(.int (Int.ofNat step), .str ⟨(sh ++ [46]).toArray⟩), (.int (Int.ofNat last), .str ⟨#[46]⟩)]), ?_, by rw [List.length_map, enumA_len, hhl]⟩
  unfold B_law_2
  refine dSeq_of (dSet_of (law6 (by exact Nat.lt_of_lt_of_le ‹_› (by decide)) hN h0)) ?_
  have e7 := law7 (step := step) (x0 := x0) (x1 := .val (nI w.length)) (x2 := x2) (x3 := .val (cN N)) (x4 := .val (cW w)) (x5 := x5) (x6 := x6) (x7 := x7) (x8 := x8) (x9 := .val (cN ways)) (x10 := x10) (x11 := x11) (x13 := .val (nI step)) (x15 := x15) (x16 := x16) (x17 := x17) (x18 := x18) (n := w.length) (by omega) hr (fun r h => (hg1 r h).2) (N.getD 0 0)
  refine dSeq_of (dSet_of (p := tx (linesL (rows.map stuff))) ((dCall_of (dOne_of ((dMeth_of rfl rfl (dOne_of e7)).trans (fJoin_is (by rw [sent_flat]; lia))))).trans ?_)) ?_
  · rw [sent_flat, quote_rows hpairs (by lia), pairs_fst]
  show dSeq _ _ [x0, .val (nI w.length), x2, .val (cN N), .val (cW w), x5, x6, x7, x8, .val (cN ways), x10, x11, .val (cR rows), .val (nI step), .val (cR ((List.range w.length).map fun k => endL (codeE (N.getD 0 0) step k))), .val (tx (linesL (rows.map stuff))), x16, x17, x18] = _
  have e8 := law8 (step := step) (x0 := x0) (x2 := x2) (x3 := .val (cN N)) (x5 := x5) (x6 := x6) (x7 := x7) (x8 := x8) (x10 := x10) (x11 := x11) (x12 := .val (cR rows)) (x14 := .val (cR ((List.range w.length).map fun k => endL (codeE (N.getD 0 0) step k)))) (x15 := .val (tx (linesL (rows.map stuff)))) (x16 := x16) (x17 := x17) (x18 := x18) hw ok (fun r h => by rw [← heq] at h; exact (hheard r h).2)
  refine dSeq_of (dIfS_of (b := false) ((dCmp_of rfl ((dMeth_of rfl rfl (dOne_of e8)).trans (fJoin_is (by rw [lines_flat, ← heq]; lia)))).trans ?_) (fun q => by cases q) fun _ => rfl) ?_
  · rw [lines_flat, ← heq]
    show some ((⟨(linesL (rows.map stuff)).toArray⟩ : Str) != ⟨(linesL (rows.map stuff)).toArray⟩) = some false
    simp
  refine dSeq_of (dSet_of (p := cR (rows.map stuff)) ((dSlice_of ((dMeth_of rfl rfl (dOne_of rfl)).trans (split_is hplain hne (by lia) (by lia))) rfl (by rfl : dPint (dNeg (fun _ => some (.int (1)))) _ = some (some (-1))) rfl).trans ?_)) ?_
  · have := drop_last ((rows.map stuff).map tx) (tx []) (by rw [List.length_map]; omega)
    unfold cR
    rw [List.map_append]
    exact this
  have e1 := next_is (by lia) (by lia) (fun r hr => by have := (hheard r hr).2; exact Nat.le_trans ‹_› (by decide)) hs hn
  refine dSeq_of (dUn_of (ps := [tx sh, nI last]) ((dCall_of (dCons_of rfl (dOne_of rfl))).trans e1) rfl) ?_
  have hdot : fAddS (tx sh) (.str (Str.ofString ".")) = some (tx (sh ++ [46])) := by
    rw [S_dot]
    exact fAdd_tx (b := [46]) (by simp only [List.length_cons, List.length_nil]; exact Nat.lt_of_le_of_lt ‹_› (by decide))
  refine dSeq_of (dSet_of (p := .dict [(.int (Int.ofNat step), .str ⟨(sh ++ [46]).toArray⟩), (.int (Int.ofNat last), .str ⟨#[46]⟩)]) ?_) ?_
  · refine (dDict2_of rfl ((dBin_of rfl rfl).trans hdot) rfl rfl).trans ?_
    unfold fDict2
    dsimp only
    rw [deceq_I, hc.1, S_dot]
  · exact dSeq_of (dSet_of (law9 (by omega))) rfl
noncomputable def mailL (w ways : List Nat) : List Nat → List (List Nat) → Option (List (List Nat))
  | [], rows => some rows
  | s :: l, rows => match turnL w ways rows s with
    | some rows' => mailL w ways l rows'
    | none => none
theorem mail_loop (hw : w.length < 400) (hw0 : 0 < w.length) (hN : N.length < 900) (h0 : 0 < N.length) (ok : waysOk w ways = true) : ∀ (l : List Nat) (rows rows' : List (List Nat)) (x11 x13 x14 x15 x16 x17 x18 : Slot), rows.length = w.length → (∀ s ∈ l, s < 9) → mailL w ways l rows = some rows' →
    ∃ y11 y13 y14 y15 y16 y17 y18, forD (uName 13) B_law_2 (l.map nI) [x0, .val (nI w.length), x2, .val (cN N), .val (cW w), x5, x6, x7, x8, .val (cN ways), x10, x11, .val (cR rows), x13, x14, x15, x16, x17, x18] =
      some (.next, [x0, .val (nI w.length), x2, .val (cN N), .val (cW w), x5, x6, x7, x8, .val (cN ways), x10, y11, .val (cR rows'), y13, y14, y15, y16, y17, y18])
  | [], rows, rows', x11, x13, x14, x15, x16, x17, x18, hr, hs, h => by
    simp only [mailL] at h
    cases h
    exact ⟨x11, x13, x14, x15, x16, x17, x18, rfl⟩
  | s :: l, rows, rows', x11, x13, x14, x15, x16, x17, x18, hr, hs, h => by
    simp only [mailL] at h
    cases ht : turnL w ways rows s with
    | none => rw [ht] at h; cases h
    | some r1 =>
      rw [ht] at h
      dsimp only at h
      obtain ⟨y11, y14, y15, y16, y17, y18, e, hl⟩ := mail_turn (x0 := x0) (x2 := x2) (x5 := x5) (x6 := x6) (x7 := x7) (x8 := x8) (x10 := x10) (x11 := x11) (x14 := x14) (x15 := x15) (x16 := x16) (x17 := x17) (x18 := x18) hw hw0 hN h0 ok hr (hs s List.mem_cons_self) ht
      obtain ⟨z11, z13, z14, z15, z16, z17, z18, ih⟩ := mail_loop hw hw0 hN h0 ok l r1 rows' y11 (.val (nI s)) y14 y15 y16 y17 y18 hl (fun q hq => hs q (List.mem_cons_of_mem _ hq)) h
      refine ⟨z11, z13, z14, z15, z16, z17, z18, ?_⟩
      rw [List.map_cons]
      simp only [forD]
      have eu : uName 13 [x0, .val (nI w.length), x2, .val (cN N), .val (cW w), x5, x6, x7, x8, .val (cN ways), x10, x11, .val (cR rows), x13, x14, x15, x16, x17, x18] (nI s) = some [x0, .val (nI w.length), x2, .val (cN N), .val (cW w), x5, x6, x7, x8, .val (cN ways), x10, x11, .val (cR rows), .val (nI s), x14, x15, x16, x17, x18] := rfl
      rw [eu]
      dsimp only
      rw [e]
      exact ih
end
end Mine
end

section
open PySem PySem.W PyProof.Rows PySem.Builtin
set_option Elab.async false
set_option autoImplicit false
set_option linter.unusedVariables false
set_option linter.unusedSimpArgs false
set_option maxRecDepth 100000
namespace Mine
noncomputable def swapC (c : Nat) : Nat := match Nat.beq c 103 with
  | true => 98
  | false => match Nat.beq c 98 with
    | true => 103
    | false => c
noncomputable def letOk (w : List Nat) : Bool := w.all fun c => Nat.beq c 114 || (Nat.beq c 103 || Nat.beq c 98)
noncomputable def goodW (w : List Nat) : Bool := letOk w && match tiesL w 103 with
  | none => false
  | some tg => match tiesL w 98 with
    | none => false
    | some tb => !(tg.isEmpty || tb.isEmpty) && (Nat.ble tg.length 400 && (Nat.ble tb.length 400 && match waysGo tg tb (enumN 0 w) with
      | none => false
      | some ways => waysOk w ways && match mailL w ways (List.range w.length) (rowsL w ways) with
        | none => false
        | some rows => eqR rows (rowsL (w.map swapC) ways) && rows.all fun r => r.all fun c => Nat.blt c 1000))
noncomputable def allW (m : Nat) : Nat → List Nat → Bool
  | 0, w => goodW w
  | n + 1, w => match freeL m w with
    | [] => false
    | c :: cs => (c :: cs).all fun d => allW m n (w ++ [d])
end Mine
end

section
open PySem PySem.W PyProof.Rows PySem.Builtin
set_option Elab.async false
set_option autoImplicit false
set_option linter.unusedVariables false
set_option linter.unusedSimpArgs false
set_option maxRecDepth 100000
namespace Mine
theorem node1 {m n a : Nat} {w : List Nat} (hf : freeL m w = [a]) (h1 : allW m n (w ++ [a]) = true) : allW m (n + 1) w = true := by
  simp only [allW, hf, List.all_cons, List.all_nil, h1, Bool.and_self]
theorem node2 {m n a b : Nat} {w : List Nat} (hf : freeL m w = [a, b]) (h1 : allW m n (w ++ [a]) = true) (h2 : allW m n (w ++ [b]) = true) : allW m (n + 1) w = true := by
  simp only [allW, hf, List.all_cons, List.all_nil, h1, h2, Bool.and_self]
theorem node3 {m n a b c : Nat} {w : List Nat} (hf : freeL m w = [a, b, c]) (h1 : allW m n (w ++ [a]) = true) (h2 : allW m n (w ++ [b]) = true) (h3 : allW m n (w ++ [c]) = true) : allW m (n + 1) w = true := by
  simp only [allW, hf, List.all_cons, List.all_nil, h1, h2, h3, Bool.and_self]
theorem g2rrg : allW 2 3 [114, 114, 103] = true := by decide +kernel
theorem g2rrb : allW 2 3 [114, 114, 98] = true := by decide +kernel
theorem g2rr : allW 2 4 [114, 114] = true := node2 rfl g2rrg g2rrb
theorem g2rgr : allW 2 3 [114, 103, 114] = true := by decide +kernel
theorem g2rgb : allW 2 3 [114, 103, 98] = true := by decide +kernel
theorem g2rg : allW 2 4 [114, 103] = true := node2 rfl g2rgr g2rgb
theorem g2rbr : allW 2 3 [114, 98, 114] = true := by decide +kernel
theorem g2rbg : allW 2 3 [114, 98, 103] = true := by decide +kernel
theorem g2rb : allW 2 4 [114, 98] = true := node2 rfl g2rbr g2rbg
theorem g2r : allW 2 5 [114] = true := node3 rfl g2rr g2rg g2rb
theorem g3rrrggg : allW 3 3 [114, 114, 114, 103, 103, 103] = true := by decide +kernel
theorem g3rrrggb : allW 3 3 [114, 114, 114, 103, 103, 98] = true := by decide +kernel
theorem g3rrrgg : allW 3 4 [114, 114, 114, 103, 103] = true := node2 rfl g3rrrggg g3rrrggb
theorem g3rrrgbg : allW 3 3 [114, 114, 114, 103, 98, 103] = true := by decide +kernel
theorem g3rrrgbb : allW 3 3 [114, 114, 114, 103, 98, 98] = true := by decide +kernel
theorem g3rrrgb : allW 3 4 [114, 114, 114, 103, 98] = true := node2 rfl g3rrrgbg g3rrrgbb
theorem g3rrrg : allW 3 5 [114, 114, 114, 103] = true := node2 rfl g3rrrgg g3rrrgb
theorem g3rrrbgg : allW 3 3 [114, 114, 114, 98, 103, 103] = true := by decide +kernel
theorem g3rrrbgb : allW 3 3 [114, 114, 114, 98, 103, 98] = true := by decide +kernel
theorem g3rrrbg : allW 3 4 [114, 114, 114, 98, 103] = true := node2 rfl g3rrrbgg g3rrrbgb
theorem g3rrrbbg : allW 3 3 [114, 114, 114, 98, 98, 103] = true := by decide +kernel
theorem g3rrrbbb : allW 3 3 [114, 114, 114, 98, 98, 98] = true := by decide +kernel
theorem g3rrrbb : allW 3 4 [114, 114, 114, 98, 98] = true := node2 rfl g3rrrbbg g3rrrbbb
theorem g3rrrb : allW 3 5 [114, 114, 114, 98] = true := node2 rfl g3rrrbg g3rrrbb
theorem g3rrr : allW 3 6 [114, 114, 114] = true := node2 rfl g3rrrg g3rrrb
theorem g3rrgrgg : allW 3 3 [114, 114, 103, 114, 103, 103] = true := by decide +kernel
theorem g3rrgrgb : allW 3 3 [114, 114, 103, 114, 103, 98] = true := by decide +kernel
theorem g3rrgrg : allW 3 4 [114, 114, 103, 114, 103] = true := node2 rfl g3rrgrgg g3rrgrgb
theorem g3rrgrbg : allW 3 3 [114, 114, 103, 114, 98, 103] = true := by decide +kernel
theorem g3rrgrbb : allW 3 3 [114, 114, 103, 114, 98, 98] = true := by decide +kernel
theorem g3rrgrb : allW 3 4 [114, 114, 103, 114, 98] = true := node2 rfl g3rrgrbg g3rrgrbb
theorem g3rrgr : allW 3 5 [114, 114, 103, 114] = true := node2 rfl g3rrgrg g3rrgrb
theorem g3rrggrg : allW 3 3 [114, 114, 103, 103, 114, 103] = true := by decide +kernel
theorem g3rrggrb : allW 3 3 [114, 114, 103, 103, 114, 98] = true := by decide +kernel
theorem g3rrggr : allW 3 4 [114, 114, 103, 103, 114] = true := node2 rfl g3rrggrg g3rrggrb
theorem g3rrggbr : allW 3 3 [114, 114, 103, 103, 98, 114] = true := by decide +kernel
theorem g3rrggbb : allW 3 3 [114, 114, 103, 103, 98, 98] = true := by decide +kernel
theorem g3rrggb : allW 3 4 [114, 114, 103, 103, 98] = true := node2 rfl g3rrggbr g3rrggbb
theorem g3rrgg : allW 3 5 [114, 114, 103, 103] = true := node2 rfl g3rrggr g3rrggb
theorem g3rrgbrg : allW 3 3 [114, 114, 103, 98, 114, 103] = true := by decide +kernel
theorem g3rrgbrb : allW 3 3 [114, 114, 103, 98, 114, 98] = true := by decide +kernel
theorem g3rrgbr : allW 3 4 [114, 114, 103, 98, 114] = true := node2 rfl g3rrgbrg g3rrgbrb
theorem g3rrgbgr : allW 3 3 [114, 114, 103, 98, 103, 114] = true := by decide +kernel
theorem g3rrgbgb : allW 3 3 [114, 114, 103, 98, 103, 98] = true := by decide +kernel
theorem g3rrgbg : allW 3 4 [114, 114, 103, 98, 103] = true := node2 rfl g3rrgbgr g3rrgbgb
theorem g3rrgbbr : allW 3 3 [114, 114, 103, 98, 98, 114] = true := by decide +kernel
theorem g3rrgbbg : allW 3 3 [114, 114, 103, 98, 98, 103] = true := by decide +kernel
theorem g3rrgbb : allW 3 4 [114, 114, 103, 98, 98] = true := node2 rfl g3rrgbbr g3rrgbbg
theorem g3rrgb : allW 3 5 [114, 114, 103, 98] = true := node3 rfl g3rrgbr g3rrgbg g3rrgbb
theorem g3rrg : allW 3 6 [114, 114, 103] = true := node3 rfl g3rrgr g3rrgg g3rrgb
theorem g3rrbrgg : allW 3 3 [114, 114, 98, 114, 103, 103] = true := by decide +kernel
theorem g3rrbrgb : allW 3 3 [114, 114, 98, 114, 103, 98] = true := by decide +kernel
theorem g3rrbrg : allW 3 4 [114, 114, 98, 114, 103] = true := node2 rfl g3rrbrgg g3rrbrgb
theorem g3rrbrbg : allW 3 3 [114, 114, 98, 114, 98, 103] = true := by decide +kernel
theorem g3rrbrbb : allW 3 3 [114, 114, 98, 114, 98, 98] = true := by decide +kernel
theorem g3rrbrb : allW 3 4 [114, 114, 98, 114, 98] = true := node2 rfl g3rrbrbg g3rrbrbb
theorem g3rrbr : allW 3 5 [114, 114, 98, 114] = true := node2 rfl g3rrbrg g3rrbrb
theorem g3rrbgrg : allW 3 3 [114, 114, 98, 103, 114, 103] = true := by decide +kernel
theorem g3rrbgrb : allW 3 3 [114, 114, 98, 103, 114, 98] = true := by decide +kernel
theorem g3rrbgr : allW 3 4 [114, 114, 98, 103, 114] = true := node2 rfl g3rrbgrg g3rrbgrb
theorem g3rrbggr : allW 3 3 [114, 114, 98, 103, 103, 114] = true := by decide +kernel
theorem g3rrbggb : allW 3 3 [114, 114, 98, 103, 103, 98] = true := by decide +kernel
theorem g3rrbgg : allW 3 4 [114, 114, 98, 103, 103] = true := node2 rfl g3rrbggr g3rrbggb
theorem g3rrbgbr : allW 3 3 [114, 114, 98, 103, 98, 114] = true := by decide +kernel
theorem g3rrbgbg : allW 3 3 [114, 114, 98, 103, 98, 103] = true := by decide +kernel
theorem g3rrbgb : allW 3 4 [114, 114, 98, 103, 98] = true := node2 rfl g3rrbgbr g3rrbgbg
theorem g3rrbg : allW 3 5 [114, 114, 98, 103] = true := node3 rfl g3rrbgr g3rrbgg g3rrbgb
theorem g3rrbbrg : allW 3 3 [114, 114, 98, 98, 114, 103] = true := by decide +kernel
theorem g3rrbbrb : allW 3 3 [114, 114, 98, 98, 114, 98] = true := by decide +kernel
theorem g3rrbbr : allW 3 4 [114, 114, 98, 98, 114] = true := node2 rfl g3rrbbrg g3rrbbrb
theorem g3rrbbgr : allW 3 3 [114, 114, 98, 98, 103, 114] = true := by decide +kernel
theorem g3rrbbgg : allW 3 3 [114, 114, 98, 98, 103, 103] = true := by decide +kernel
theorem g3rrbbg : allW 3 4 [114, 114, 98, 98, 103] = true := node2 rfl g3rrbbgr g3rrbbgg
theorem g3rrbb : allW 3 5 [114, 114, 98, 98] = true := node2 rfl g3rrbbr g3rrbbg
theorem g3rrb : allW 3 6 [114, 114, 98] = true := node3 rfl g3rrbr g3rrbg g3rrbb
theorem g3rr : allW 3 7 [114, 114] = true := node3 rfl g3rrr g3rrg g3rrb
theorem g3rgrrgg : allW 3 3 [114, 103, 114, 114, 103, 103] = true := by decide +kernel
theorem g3rgrrgb : allW 3 3 [114, 103, 114, 114, 103, 98] = true := by decide +kernel
theorem g3rgrrg : allW 3 4 [114, 103, 114, 114, 103] = true := node2 rfl g3rgrrgg g3rgrrgb
theorem g3rgrrbg : allW 3 3 [114, 103, 114, 114, 98, 103] = true := by decide +kernel
theorem g3rgrrbb : allW 3 3 [114, 103, 114, 114, 98, 98] = true := by decide +kernel
theorem g3rgrrb : allW 3 4 [114, 103, 114, 114, 98] = true := node2 rfl g3rgrrbg g3rgrrbb
theorem g3rgrr : allW 3 5 [114, 103, 114, 114] = true := node2 rfl g3rgrrg g3rgrrb
theorem g3rgrgrg : allW 3 3 [114, 103, 114, 103, 114, 103] = true := by decide +kernel
theorem g3rgrgrb : allW 3 3 [114, 103, 114, 103, 114, 98] = true := by decide +kernel
theorem g3rgrgr : allW 3 4 [114, 103, 114, 103, 114] = true := node2 rfl g3rgrgrg g3rgrgrb
theorem g3rgrgbr : allW 3 3 [114, 103, 114, 103, 98, 114] = true := by decide +kernel
theorem g3rgrgbb : allW 3 3 [114, 103, 114, 103, 98, 98] = true := by decide +kernel
theorem g3rgrgb : allW 3 4 [114, 103, 114, 103, 98] = true := node2 rfl g3rgrgbr g3rgrgbb
theorem g3rgrg : allW 3 5 [114, 103, 114, 103] = true := node2 rfl g3rgrgr g3rgrgb
theorem g3rgrbrg : allW 3 3 [114, 103, 114, 98, 114, 103] = true := by decide +kernel
theorem g3rgrbrb : allW 3 3 [114, 103, 114, 98, 114, 98] = true := by decide +kernel
theorem g3rgrbr : allW 3 4 [114, 103, 114, 98, 114] = true := node2 rfl g3rgrbrg g3rgrbrb
theorem g3rgrbgr : allW 3 3 [114, 103, 114, 98, 103, 114] = true := by decide +kernel
theorem g3rgrbgb : allW 3 3 [114, 103, 114, 98, 103, 98] = true := by decide +kernel
theorem g3rgrbg : allW 3 4 [114, 103, 114, 98, 103] = true := node2 rfl g3rgrbgr g3rgrbgb
theorem g3rgrbbr : allW 3 3 [114, 103, 114, 98, 98, 114] = true := by decide +kernel
theorem g3rgrbbg : allW 3 3 [114, 103, 114, 98, 98, 103] = true := by decide +kernel
theorem g3rgrbb : allW 3 4 [114, 103, 114, 98, 98] = true := node2 rfl g3rgrbbr g3rgrbbg
theorem g3rgrb : allW 3 5 [114, 103, 114, 98] = true := node3 rfl g3rgrbr g3rgrbg g3rgrbb
theorem g3rgr : allW 3 6 [114, 103, 114] = true := node3 rfl g3rgrr g3rgrg g3rgrb
theorem g3rgbrrg : allW 3 3 [114, 103, 98, 114, 114, 103] = true := by decide +kernel
theorem g3rgbrrb : allW 3 3 [114, 103, 98, 114, 114, 98] = true := by decide +kernel
theorem g3rgbrr : allW 3 4 [114, 103, 98, 114, 114] = true := node2 rfl g3rgbrrg g3rgbrrb
theorem g3rgbrgr : allW 3 3 [114, 103, 98, 114, 103, 114] = true := by decide +kernel
theorem g3rgbrgb : allW 3 3 [114, 103, 98, 114, 103, 98] = true := by decide +kernel
theorem g3rgbrg : allW 3 4 [114, 103, 98, 114, 103] = true := node2 rfl g3rgbrgr g3rgbrgb
theorem g3rgbrbr : allW 3 3 [114, 103, 98, 114, 98, 114] = true := by decide +kernel
theorem g3rgbrbg : allW 3 3 [114, 103, 98, 114, 98, 103] = true := by decide +kernel
theorem g3rgbrb : allW 3 4 [114, 103, 98, 114, 98] = true := node2 rfl g3rgbrbr g3rgbrbg
theorem g3rgbr : allW 3 5 [114, 103, 98, 114] = true := node3 rfl g3rgbrr g3rgbrg g3rgbrb
theorem g3rgb : allW 3 6 [114, 103, 98] = true := node1 rfl g3rgbr
theorem g3rg : allW 3 7 [114, 103] = true := node2 rfl g3rgr g3rgb
theorem g3rbrrgg : allW 3 3 [114, 98, 114, 114, 103, 103] = true := by decide +kernel
theorem g3rbrrgb : allW 3 3 [114, 98, 114, 114, 103, 98] = true := by decide +kernel
theorem g3rbrrg : allW 3 4 [114, 98, 114, 114, 103] = true := node2 rfl g3rbrrgg g3rbrrgb
theorem g3rbrrbg : allW 3 3 [114, 98, 114, 114, 98, 103] = true := by decide +kernel
theorem g3rbrrbb : allW 3 3 [114, 98, 114, 114, 98, 98] = true := by decide +kernel
theorem g3rbrrb : allW 3 4 [114, 98, 114, 114, 98] = true := node2 rfl g3rbrrbg g3rbrrbb
theorem g3rbrr : allW 3 5 [114, 98, 114, 114] = true := node2 rfl g3rbrrg g3rbrrb
theorem g3rbrgrg : allW 3 3 [114, 98, 114, 103, 114, 103] = true := by decide +kernel
theorem g3rbrgrb : allW 3 3 [114, 98, 114, 103, 114, 98] = true := by decide +kernel
theorem g3rbrgr : allW 3 4 [114, 98, 114, 103, 114] = true := node2 rfl g3rbrgrg g3rbrgrb
theorem g3rbrggr : allW 3 3 [114, 98, 114, 103, 103, 114] = true := by decide +kernel
theorem g3rbrggb : allW 3 3 [114, 98, 114, 103, 103, 98] = true := by decide +kernel
theorem g3rbrgg : allW 3 4 [114, 98, 114, 103, 103] = true := node2 rfl g3rbrggr g3rbrggb
theorem g3rbrgbr : allW 3 3 [114, 98, 114, 103, 98, 114] = true := by decide +kernel
theorem g3rbrgbg : allW 3 3 [114, 98, 114, 103, 98, 103] = true := by decide +kernel
theorem g3rbrgb : allW 3 4 [114, 98, 114, 103, 98] = true := node2 rfl g3rbrgbr g3rbrgbg
theorem g3rbrg : allW 3 5 [114, 98, 114, 103] = true := node3 rfl g3rbrgr g3rbrgg g3rbrgb
theorem g3rbrbrg : allW 3 3 [114, 98, 114, 98, 114, 103] = true := by decide +kernel
theorem g3rbrbrb : allW 3 3 [114, 98, 114, 98, 114, 98] = true := by decide +kernel
theorem g3rbrbr : allW 3 4 [114, 98, 114, 98, 114] = true := node2 rfl g3rbrbrg g3rbrbrb
theorem g3rbrbgr : allW 3 3 [114, 98, 114, 98, 103, 114] = true := by decide +kernel
theorem g3rbrbgg : allW 3 3 [114, 98, 114, 98, 103, 103] = true := by decide +kernel
theorem g3rbrbg : allW 3 4 [114, 98, 114, 98, 103] = true := node2 rfl g3rbrbgr g3rbrbgg
theorem g3rbrb : allW 3 5 [114, 98, 114, 98] = true := node2 rfl g3rbrbr g3rbrbg
theorem g3rbr : allW 3 6 [114, 98, 114] = true := node3 rfl g3rbrr g3rbrg g3rbrb
theorem g3rbgrrg : allW 3 3 [114, 98, 103, 114, 114, 103] = true := by decide +kernel
theorem g3rbgrrb : allW 3 3 [114, 98, 103, 114, 114, 98] = true := by decide +kernel
theorem g3rbgrr : allW 3 4 [114, 98, 103, 114, 114] = true := node2 rfl g3rbgrrg g3rbgrrb
theorem g3rbgrgr : allW 3 3 [114, 98, 103, 114, 103, 114] = true := by decide +kernel
theorem g3rbgrgb : allW 3 3 [114, 98, 103, 114, 103, 98] = true := by decide +kernel
theorem g3rbgrg : allW 3 4 [114, 98, 103, 114, 103] = true := node2 rfl g3rbgrgr g3rbgrgb
theorem g3rbgrbr : allW 3 3 [114, 98, 103, 114, 98, 114] = true := by decide +kernel
theorem g3rbgrbg : allW 3 3 [114, 98, 103, 114, 98, 103] = true := by decide +kernel
theorem g3rbgrb : allW 3 4 [114, 98, 103, 114, 98] = true := node2 rfl g3rbgrbr g3rbgrbg
theorem g3rbgr : allW 3 5 [114, 98, 103, 114] = true := node3 rfl g3rbgrr g3rbgrg g3rbgrb
theorem g3rbg : allW 3 6 [114, 98, 103] = true := node1 rfl g3rbgr
theorem g3rb : allW 3 7 [114, 98] = true := node2 rfl g3rbr g3rbg
theorem g3r : allW 3 8 [114] = true := node3 rfl g3rr g3rg g3rb
theorem all2 : allW 2 5 [114] = true := g2r
theorem all3 : allW 3 8 [114] = true := g3r
theorem allW_is {m : Nat} : ∀ (n : Nat) (w : List Nat), allW m n w = true → ∀ ns : List Nat, ns.length = n → ∃ w', wordL m w ns = some w' ∧ goodW w' = true ∧ w'.length = w.length + n
  | 0, w, h, ns, hn => by
    have : ns = [] := List.length_eq_zero_iff.mp hn
    subst this
    exact ⟨w, rfl, h, rfl⟩
  | n + 1, w, h, ns, hn => by
    cases ns with
    | nil => cases hn
    | cons k ns =>
      simp only [List.length_cons, Nat.add_right_cancel_iff] at hn
      simp only [allW] at h
      cases hf : freeL m w with
      | nil => rw [hf] at h; cases h
      | cons c cs =>
        rw [hf] at h
        dsimp only at h
        have hp : ∃ d, pickL (c :: cs) k = some d ∧ d ∈ c :: cs := by
          unfold pickL
          have hl : k % (cs.length + 1) < (c :: cs).length := Nat.mod_lt _ (Nat.succ_pos _)
          exact ⟨(c :: cs)[k % (cs.length + 1)], List.getElem?_eq_getElem hl, List.getElem_mem hl⟩
        obtain ⟨d, hd, hm⟩ := hp
        obtain ⟨w', h1, h2, h3⟩ := allW_is n (w ++ [d]) (List.all_eq_true.mp h d hm) ns hn
        refine ⟨w', ?_, h2, by rw [h3]; simp; exact Nat.add_right_comm _ _ _⟩
        simp only [wordL, wordStep, hf, hd]
        exact h1
/- the last comparison -/
theorem can_R : ∀ l : List (List Nat), (l.all fun r => r.all fun c => Nat.blt c 1000) = true → PyData.canLayAll0 (toPys (l.map tx)) = true
  | [], _ => by simp [toPys, PyData.canLayAll0]
  | a :: l, h => by
    simp only [List.all_cons, Bool.and_eq_true] at h
    simp only [List.map_cons, toPys, toPy, PyData.canLayAll0, PyData.canLay0, can_R l h.2, Bool.and_true]
    unfold PyData.strOk
    show a.toArray.all _ = true
    simp only [List.all_toArray]
    apply List.all_eq_true.mpr
    intro c hc
    have := Nat.blt_eq.mp (List.all_eq_true.mp h.1 c hc)
    exact decide_eq_true (by exact Nat.lt_of_lt_of_le ‹_› (by decide))
theorem depth_R : ∀ l : List (List Nat), PyData.depthAll (toPys (l.map tx)) = 0
  | [] => by simp [toPys, PyData.depthAll]
  | a :: l => by simp only [List.map_cons, toPys, toPy, PyData.depthAll, PyData.depth, depth_R l]; rfl
theorem flt_R : ∀ l : List (List Nat), noFlts (l.map tx) = true
  | [] => by simp [noFlts]
  | a :: l => by simp [noFlts, noFlt, flt_R l]
theorem eqv_R : ∀ l : List (List Nat), PyData.eqvAll (toPys (l.map tx)) (toPys (l.map tx)) = true
  | [] => by simp [toPys, PyData.eqvAll]
  | a :: l => by
    simp only [List.map_cons, toPys, toPy, PyData.eqvAll, PyData.eqv, eqv_R l, Bool.and_true]
    exact beq_self_eq_true _
theorem cEq_R {l : List (List Nat)} (h : (l.all fun r => r.all fun c => Nat.blt c 1000) = true) : cEqL (cR l) (cR l) = some true := by
  have ok : okD (cR l) = true := by
    simp only [okD, noFlt, flt_R, Bool.true_and, SeqAt.shaped, toPy, PyData.canLay0, can_R l h, PyData.depth, depth_R]
    decide
  unfold cEqL
  rw [ok]
  dsimp only
  congr 1
  simp only [toPy, PyData.eqv]
  exact eqv_R l
theorem swap_at {c : Nat} (h : (Nat.beq c 114 || (Nat.beq c 103 || Nat.beq c 98)) = true) {d : Den} {ρ : List Slot} (hd : d ρ = some (ch c)) :
    dCdict [(PyData.str (Str.ofString "r"), PyData.str (Str.ofString "r")), (PyData.str (Str.ofString "g"), PyData.str (Str.ofString "b")), (PyData.str (Str.ofString "b"), PyData.str (Str.ofString "g"))] d ρ = some (ch (swapC c)) := by
  unfold dCdict
  rw [hd]
  rw [S_r, S_g, S_b]
  have key : Spec.lookup (.str ⟨#[c]⟩) [(PyData.str ⟨#[114]⟩, PyData.str ⟨#[114]⟩), (PyData.str ⟨#[103]⟩, PyData.str ⟨#[98]⟩), (PyData.str ⟨#[98]⟩, PyData.str ⟨#[103]⟩)] = some (PyData.str ⟨#[swapC c]⟩) := by
    simp only [Bool.or_eq_true] at h
    rcases h with h | h | h <;> (have e := Nat.eq_of_beq_eq_true h; subst e; rfl)
  dsimp only
  rw [key]
theorem law10 {w : List Nat} (hw : w.length < 900) (h : letOk w = true) {x0 x1 x2 x3 x5 x6 x7 x8 x9 x10 x11 x12 x13 x14 x15 x16 x17 x18 : Slot} :
    C_law_10 [x0, x1, x2, x3, .val (cW w), x5, x6, x7, x8, x9, x10, x11, x12, x13, x14, x15, x16, x17, x18] = some (cW (w.map swapC)) := by
  have ez : cW (w.map swapC) = .list (w.map fun c => ch (swapC c)) := by unfold cW; rw [List.map_map]; rfl
  rw [ez]
  unfold C_law_10
  refine dComp_of (l := w.map ch) rfl (by rw [List.length_map]; exact Nat.le_of_lt (Nat.lt_of_lt_of_le ‹_› (by decide))) ?_
  refine (compD_all ch (fun _ => true) (fun c => ch (swapC c)) (fun ρ => ∃ x, ρ = [x]) w (fun c hc ρ hρ => ?_) _ ⟨.unset, rfl⟩).trans (by rw [List.filter_eq_self.mpr (fun _ _ => rfl)])
  obtain ⟨x, rfl⟩ := hρ
  exact ⟨[.val (ch c)], rfl, ⟨_, rfl⟩, rfl, fun _ => swap_at (List.all_eq_true.mp h c hc) rfl⟩
/-- behind the word -/
theorem law_tail {xs : List Int} {N w : List Nat} {plain : PV} (hN : N.length + 1 = w.length) (hw : w.length ≤ 9) (hN0 : 0 < N.length) (h : goodW w = true) {x5 x6 x7 x8 x9 x10 x11 x12 x13 x14 x15 x16 x17 x18 : Slot} :
    ∃ ρ', (dSeq (dOwn 5 (dCons (fun _ => some (.str (Str.ofString "\\)"))) (dCons (fun _ => some (.str (Str.ofString "\")\""))) (dCons (fun _ => some (.str (Str.ofString "\\("))) (dCons (fun _ => some (.str (Str.ofString "\"(\""))) (dCons (fun _ => some (.str (Str.ofString "\\\""))) (dCons (fun _ => some (.str (Str.ofString "\"\\\")\""))) (dCons (fun _ => some (.str (Str.ofString "\\\\"))) dNil)))))))) (fun ρ => (dSeq (dSet 6 (dBin fAddL (dList (dCons (fun _ => some (.str (Str.ofString ""))) dNil)) C_law_3)) (dSeq (dSet 8 C_law_4) (dSeq (dIfS (dCmp cInL (dList dNil) (dName 8)) (dSeq (dRet (fun _ => some (.bool false))) dDone) dDone) (dSeq (dOwn 9 dNil) (dSeq (dFor (sEnum (dName 4)) (uTup [10, 7]) B_law_1) (fun ρ => (dSeq (dSet 12 (dCall F_rows (dCons (dName 4) (dCons (dName 9) dNil)))) (dSeq (dFor (sRange1 (dName 1)) (uName 13) B_law_2) (fun ρ => (dSeq (dRet (dB (dCmp cEqL (dName 12) (dCall F_rows (dCons C_law_10 (dCons (dName 9) dNil)))))) dDone) (frz 9 ρ)))) (frz 9 ρ))))))) (frz 5 ρ)))
      [.val (cI2 xs), .val (nI w.length), .val plain, .val (cN N), .val (cW w), x5, x6, x7, x8, x9, x10, x11, x12, x13, x14, x15, x16, x17, x18] = some (.ret (.bool true), ρ') := by
  unfold goodW at h
  simp only [Bool.and_eq_true] at h
  obtain ⟨hlet, h⟩ := h
  cases hg : tiesL w 103 with
  | none => rw [hg] at h; cases h
  | some tg =>
  rw [hg] at h
  dsimp only at h
  cases hb : tiesL w 98 with
  | none => rw [hb] at h; cases h
  | some tb =>
  rw [hb] at h
  dsimp only at h
  simp only [Bool.and_eq_true, Bool.not_eq_true'] at h
  obtain ⟨hem, hlg, hlb, h⟩ := h
  have hlg := Nat.le_of_ble_eq_true hlg
  have hlb := Nat.le_of_ble_eq_true hlb
  cases hy : waysGo tg tb (enumN 0 w) with
  | none => rw [hy] at h; cases h
  | some ways =>
  rw [hy] at h
  dsimp only at h
  simp only [Bool.and_eq_true] at h
  obtain ⟨ok, h⟩ := h
  cases hm : mailL w ways (List.range w.length) (rowsL w ways) with
  | none => rw [hm] at h; cases h
  | some rows =>
  rw [hm] at h
  dsimp only at h
  simp only [Bool.and_eq_true] at h
  obtain ⟨heq, hsm⟩ := h
  have heq := eqR_is heq
  have ok' := ok
  simp only [waysOk, Bool.and_eq_true] at ok'
  obtain ⟨o1, o2, o3⟩ := ok'
  have o1 := Nat.eq_of_beq_eq_true o1
  have hbnd : ∀ x ∈ ways, x < 1000 := fun x hx => by have := Nat.blt_eq.mp (List.all_eq_true.mp o2 x hx); lia
  have hh : ∀ k < w.length, hasN k ways = true ∧ idxN k ways ≤ w.length := fun k hk => by
    have := List.all_eq_true.mp o3 k (List.mem_range.mpr hk)
    exact ⟨this, by rw [← o1]; exact Nat.le_of_lt (idx_lt _ _ this)⟩
  obtain ⟨y7, y10, hw1⟩ := ways_loop hlg hlb (x0 := .val (cI2 xs)) (x1 := .val (nI w.length)) (x2 := .val plain) (x3 := .val (cN N)) (x4 := .val (cW w)) (x5 := .val (cR kindsL)) (x6 := .val (hidE (N.map fun n => n / 6 % 7))) (x11 := x11) (x12 := x12) (x13 := x13) (x14 := x14) (x15 := x15) (x16 := x16) (x17 := x17) (x18 := x18) (enumN 0 w) [] ways x7 x10 (by rw [enum_len]; simp; exact Nat.le_trans ‹_› (by decide)) hy
  obtain ⟨y11, y13, y14, y15, y16, y17, y18, hl1⟩ := mail_loop (N := N) (x0 := .val (cI2 xs)) (x2 := .val plain) (x5 := .val (cR kindsL)) (x6 := .val (hidE (N.map fun n => n / 6 % 7))) (x7 := y7) (x8 := .val (.list [cT tg, cT tb])) (x10 := y10) (by exact Nat.lt_of_le_of_lt ‹_› (by decide)) (by lia) (by lia) hN0 ok (List.range w.length) (rowsL w ways) rows x11 x13 x14 x15 x16 x17 x18 (by unfold rowsL; rw [List.length_map, enum_len]) (fun s hs => by have := List.mem_range.mp hs; (apply Nat.le_trans <;> assumption)) hm
  refine ⟨[.val (cI2 xs), .val (nI w.length), .val plain, .val (cN N), .val (cW w), .val (cR kindsL), .val (hidE (N.map fun n => n / 6 % 7)), y7, .val (.list [cT tg, cT tb]), .val (cN ways), y10, y11, .val (cR rows), y13, y14, y15, y16, y17, y18], ?_⟩
  refine dSeq_of (ρ' := [.val (cI2 xs), .val (nI w.length), .val plain, .val (cN N), .val (cW w), .own (kindsL.map tx), x6, x7, x8, x9, x10, x11, x12, x13, x14, x15, x16, x17, x18]) ?_ ?_
  · refine (dOwn_of (ps := kindsL.map tx) ?_ (Nat.le_of_ble_eq_true rfl)).trans rfl
    have k0 : Str.ofString "\\)" = ⟨#[92, 41]⟩ := by decide +kernel
    have k1 : Str.ofString "\")\"" = ⟨#[34, 41, 34]⟩ := by decide +kernel
    have k2 : Str.ofString "\\(" = ⟨#[92, 40]⟩ := by decide +kernel
    have k3 : Str.ofString "\"(\"" = ⟨#[34, 40, 34]⟩ := by decide +kernel
    have k4 : Str.ofString "\\\"" = ⟨#[92, 34]⟩ := by decide +kernel
    have k5 : Str.ofString "\"\\\")\"" = ⟨#[34, 92, 34, 41, 34]⟩ := by decide +kernel
    have k6 : Str.ofString "\\\\" = ⟨#[92, 92]⟩ := by decide +kernel
    rw [k0, k1, k2, k3, k4, k5, k6]
    rfl
  show dSeq _ _ [.val (cI2 xs), .val (nI w.length), .val plain, .val (cN N), .val (cW w), .val (cR kindsL), x6, x7, x8, x9, x10, x11, x12, x13, x14, x15, x16, x17, x18] = _
  have el : dList (dCons (fun _ => some (.str (Str.ofString ""))) dNil) [.val (cI2 xs), .val (nI w.length), .val plain, .val (cN N), .val (cW w), .val (cR kindsL), x6, x7, x8, x9, x10, x11, x12, x13, x14, x15, x16, x17, x18] = some (cR [[]]) := by
    refine (dList_of (dOne_of rfl) (Nat.le_of_ble_eq_true rfl)).trans ?_
    rw [S_nil]; rfl
  refine dSeq_of (dSet_of (p := hidE (N.map fun n => n / 6 % 7)) ((dBin_of el (law3 (by omega))).trans ?_)) ?_
  · unfold fAddL
    dsimp only
    rw [Nat.ble_eq.mpr (by simp; lia)]
    rfl
  refine dSeq_of (dSet_of (law4 (by omega) (by rw [List.length_map]; exact hN) hg hb)) ?_
  refine dSeq_of (dIfS_of (b := false) ((dCmp_of rfl rfl).trans ((in_ties tg tb).trans (by rw [hem]))) (fun q => by cases q) fun _ => rfl) ?_
  refine dSeq_of (ρ' := [.val (cI2 xs), .val (nI w.length), .val plain, .val (cN N), .val (cW w), .val (cR kindsL), .val (hidE (N.map fun n => n / 6 % 7)), x7, .val (.list [cT tg, cT tb]), .own [], x10, x11, x12, x13, x14, x15, x16, x17, x18]) rfl ?_
  refine dSeq_of ((dFor_of (l := (enumN 0 w).map fun p => PV.tup [nI p.1, ch p.2]) ?_).trans hw1) ?_
  · show some (enumFrom 0 (w.map ch)) = _
    rw [enum_is]
  show dSeq _ _ [.val (cI2 xs), .val (nI w.length), .val plain, .val (cN N), .val (cW w), .val (cR kindsL), .val (hidE (N.map fun n => n / 6 % 7)), y7, .val (.list [cT tg, cT tb]), .val (cN ways), y10, x11, x12, x13, x14, x15, x16, x17, x18] = _
  refine dSeq_of (dSet_of ((dCall_of (dCons_of rfl (dOne_of rfl))).trans (rows_is (by exact Nat.lt_of_le_of_lt ‹_› (by decide)) (by lia) hbnd fun k hk _ => hh k hk))) ?_
  refine dSeq_of ((dFor_of (l := (List.range w.length).map nI) (rangeI_N (n := w.length) (by exact Nat.lt_of_le_of_lt ‹_› (by decide)))).trans hl1) ?_
  refine dSeq_ret (dRet_of (dB_of ((dCmp_of rfl ((dCall_of (dCons_of (law10 (by omega) hlet) (dOne_of rfl))).trans (rows_is (by rw [List.length_map]; omega) (by omega) hbnd fun k hk _ => by rw [List.length_map] at hk ⊢; exact hh k hk))).trans ?_)))
  rw [← heq]
  exact cEq_R hsm
/-- the law holds of every list of ints of 63 at most -/
theorem law_is {xs : List Int} (hx : xs.length ≤ 700) : F_law [cI2 xs] = some (.bool true) := by
  unfold F_law callDef
  show (match D_law [.val (cI2 xs), .unset, .unset, .unset, .unset, .unset, .unset, .unset, .unset, .unset, .unset, .unset, .unset, .unset, .unset, .unset, .unset, .unset, .unset] with | some (.ret p, _) => some p | some (.next, _) => some .none | _ => none) = _
  have key : ∃ ρ', D_law [.val (cI2 xs), .unset, .unset, .unset, .unset, .unset, .unset, .unset, .unset, .unset, .unset, .unset, .unset, .unset, .unset, .unset, .unset, .unset, .unset] = some (.ret (.bool true), ρ') := by
    have main : ∀ size m : Nat, 1 < size → size ≤ 9 → allW m (size - 1) [114] = true → (Int.ofNat (size - 1) + 1).fdiv 3 = Int.ofNat m →
        (dIf (dCmp cGtI (dCall fLen (dCons (dName 0) dNil)) (fun _ => some (.int (5)))) (fun _ => some (.int (9))) (fun _ => some (.int (6)))) [.val (cI2 xs), .unset, .unset, .unset, .unset, .unset, .unset, .unset, .unset, .unset, .unset, .unset, .unset, .unset, .unset, .unset, .unset, .unset, .unset] = some (nI size) →
        ∃ ρ', D_law [.val (cI2 xs), .unset, .unset, .unset, .unset, .unset, .unset, .unset, .unset, .unset, .unset, .unset, .unset, .unset, .unset, .unset, .unset, .unset, .unset] = some (.ret (.bool true), ρ') := by
      intro size m h1 h9 hall hm hs
      obtain ⟨ns, hn, hl⟩ := law1 (xs := xs) (plain := [2, 4, 10, 16, 20, 5, 8, 14]) (size := size) hx h1 (by exact Nat.le_trans ‹_› (by decide)) (by show size - 1 ≤ 8; lia) (by decide) (x3 := .unset) (x4 := .unset) (x5 := .unset) (x6 := .unset) (x7 := .unset) (x8 := .unset) (x9 := .unset) (x10 := .unset) (x11 := .unset) (x12 := .unset) (x13 := .unset) (x14 := .unset) (x15 := .unset) (x16 := .unset) (x17 := .unset) (x18 := .unset)
      obtain ⟨w, hw1, hw2, hw3⟩ := allW_is (size - 1) [114] hall ns hl
      have hwl : w.length = size := by rw [hw3]; show 1 + (size - 1) = size; lia
      obtain ⟨ρ', ht⟩ := law_tail (xs := xs) (N := ns) (w := w) (plain := cN [2, 4, 10, 16, 20, 5, 8, 14]) (by lia) (by lia) (by lia) hw2 (x5 := .unset) (x6 := .unset) (x7 := .unset) (x8 := .unset) (x9 := .unset) (x10 := .unset) (x11 := .unset) (x12 := .unset) (x13 := .unset) (x14 := .unset) (x15 := .unset) (x16 := .unset) (x17 := .unset) (x18 := .unset)
      rw [hwl] at ht
      refine ⟨ρ', ?_⟩
      unfold D_law
      refine dSeq_of (dSet_of hs) ?_
      refine dSeq_of (ρ' := [.val (cI2 xs), .val (nI size), .own ([2, 4, 10, 16, 20, 5, 8, 14].map nI), .unset, .unset, .unset, .unset, .unset, .unset, .unset, .unset, .unset, .unset, .unset, .unset, .unset, .unset, .unset, .unset]) rfl ?_
      show dSeq _ _ [.val (cI2 xs), .val (nI size), .val (cN [2, 4, 10, 16, 20, 5, 8, 14]), .unset, .unset, .unset, .unset, .unset, .unset, .unset, .unset, .unset, .unset, .unset, .unset, .unset, .unset, .unset, .unset] = _
      refine dSeq_of (dSet_of hn) ?_
      refine dSeq_of (dSet_of ((dCall_of (dOne_of rfl)).trans (word_is (by lia) (by rw [hl]; exact hm) hw1))) ?_
      exact ht
    have ec : dCmp cGtI (dCall fLen (dCons (dName 0) dNil)) (fun _ => some (.int (5))) [.val (cI2 xs), .unset, .unset, .unset, .unset, .unset, .unset, .unset, .unset, .unset, .unset, .unset, .unset, .unset, .unset, .unset, .unset, .unset, .unset] = some (Nat.blt 5 xs.length) := by
      refine (dCmp_of (q := nI 5) ((dCall_of (dOne_of rfl)).trans ((fLen_L (by rw [List.length_map]; exact Nat.le_trans ‹_› (by decide))).trans (by rw [List.length_map]))) rfl).trans (cGt_N _ _)
    cases hb : Nat.blt 5 xs.length with
    | true => exact main 9 3 (by exact Nat.le_add_left _ _) (by decide) all3 (by decide) (dIf_of (ec.trans (by rw [hb])) (fun _ => rfl) fun q => by cases q)
    | false => exact main 6 2 (by exact Nat.le_add_left _ _) (by exact Nat.le_add_left _ _) all2 (by decide) (dIf_of (ec.trans (by rw [hb])) (fun q => by cases q) fun _ => rfl)
  obtain ⟨ρ', h⟩ := key
  rw [h]
end Mine
end

section
open PySem PySem.W PySem.W.X PySem.W.ZRun PyProof.Rows
set_option Elab.async false
set_option autoImplicit false
set_option linter.unusedVariables false
set_option maxRecDepth 100000
namespace Mine
noncomputable def posOf : Stmt → Pos
  | .FunctionDef _ _ _ _ _ _ _ _ _ p => p
  | _ => default
theorem post_ok (args : List WData) : PySem.Challenge.rw_rs0051_01.row.claim.post args (.bool true) args = true := by
  refine postW_of (X := true) ?_ ?_ rfl
  · show WShape.has [] (.bool true) .bool = true
    simp [WShape.has, WShape.arms]
  · show WTm.value [] (.eq .res (.lit (.bool true))) _ = _
    have : PySem.W.same (WData.bool true) (WData.bool true) = true := by simp [PySem.W.same]
    simp [WTm.value, this]
/-- the def of a place in the text, as the top's view keeps it -/
noncomputable def RecAt (p : Program) (f : Str) (k : Nat) : Prop := ∃ pos, (⟨f, paramsAt k, bodyAt k, scopeAt k, pos⟩ : DefRec) ∈ recsOf p
theorem def_at {X : Top0} {p : Program} {loose : List Str} {mean : ExcName → Option Value} {h : Heap} {f : Str} {k : Nat} (T : Top p loose mean X.mg X.mb h) (hW : X.W₀ = fun a => h.get? a) (r : RecAt p f k) : Nonempty (DefAt X f k) := by
  obtain ⟨pos, hm⟩ := r
  obtain ⟨a, o, pm, code, doc, h1, h2, h3, h4⟩ := T.fn _ hm
  exact ⟨{ fa := a, o := o, pm := pm, cd := code, doc := doc, hv := h1, ho := by rw [hW]; exact h2, hdata := h3, hcd := fun h' g => h4.keeps (fun b o' e => g b o' (by rw [hW]; exact e)) }⟩
noncomputable def defAt {X : Top0} {p : Program} {loose : List Str} {mean : ExcName → Option Value} {h : Heap} {f : Str} {k : Nat} (T : Top p loose mean X.mg X.mb h) (hW : X.W₀ = fun a => h.get? a) (r : RecAt p f k) : DefAt X f k := Classical.choice (def_at T hW r)
/-- what the written-out heap says of the names that are no defs -/
structure Written (K : Frag) : Prop where
  glob : ∃ o es ep, K.lookup mainGlobals = some o ∧ o.data = .dict es ep ∧ nsFind es (Str.ofString "_twin_re_1") = some (.ref 71) ∧ nsFind es (Str.ofString "_twin_re_2") = some (.ref 76) ∧
    (∃ t, nsFind es (Str.ofString "CRLF") = some (.str (Str.ofString "\r\n") t)) ∧ nsFind es (Str.ofString "len") = none ∧ nsFind es (Str.ofString "sum") = none ∧ nsFind es (Str.ofString "min") = none ∧ nsFind es (Str.ofString "max") = none ∧
    nsFind es (Str.ofString "int") = none ∧ nsFind es (Str.ofString "range") = none ∧ nsFind es (Str.ofString "enumerate") = none ∧ nsFind es (Str.ofString "law") = some (.ref 127)
  pat1 : ∃ o fs oc cs n, K.lookup 71 = some o ∧ o.cls = .type "re.Pattern" ∧ o.dict = none ∧ o.data = .fields fs ∧ fs.getD 5 .none = .ref 70 ∧ Builtin.Re.reRawNat (fs.getD 6 .none) = 0 ∧ Builtin.Re.reRawNat (fs.getD 2 .none) = 0 ∧ K.lookup 70 = some oc ∧ oc.data = .seq cs n ∧ (cs.map Builtin.Re.reRawOf).map (·.toNat) = C1
  pat2 : ∃ o fs oc cs n, K.lookup 76 = some o ∧ o.cls = .type "re.Pattern" ∧ o.dict = none ∧ o.data = .fields fs ∧ fs.getD 5 .none = .ref 75 ∧ Builtin.Re.reRawNat (fs.getD 6 .none) = 0 ∧ Builtin.Re.reRawNat (fs.getD 2 .none) = 0 ∧ K.lookup 75 = some oc ∧ oc.data = .seq cs n ∧ (cs.map Builtin.Re.reRawOf).map (·.toNat) = C2
structure Seen (p : Program) : Prop where
  r2 : RecAt p (Str.ofString "rgb_to_hls") 2
  r3 : RecAt p (Str.ofString "rgb_to_hsv") 3
  r5 : RecAt p (Str.ofString "_iter_escaped_chars") 5
  r6 : RecAt p (Str.ofString "_strip_quoted_realnames") 6
  r7 : RecAt p (Str.ofString "_check_parenthesis") 7
  r12 : RecAt p (Str.ofString "quotedata") 12
  r14 : RecAt p (Str.ofString "_law_word") 14
  r15 : RecAt p (Str.ofString "_law_ties") 15
  r16 : RecAt p (Str.ofString "_law_way") 16
  r17 : RecAt p (Str.ofString "_law_row") 17
  r18 : RecAt p (Str.ofString "_law_rows") 18
  r19 : RecAt p (Str.ofString "_law_even") 19
  r20 : RecAt p (Str.ofString "_law_next") 20
  r21 : RecAt p (Str.ofString "law") 21
theorem ints_reps {W : Fz} : ∀ {vs : List Value} {ns : List Int}, IntsAre vs ns → Reps W vs (ns.map .int)
  | _, _, .nil => .nil
  | _, _, .cons n t r => .cons (.int n t) (ints_reps r)
theorem boots : bootBuiltins (Str.ofString "len") = some (.builtin "len") ∧ bootBuiltins (Str.ofString "sum") = some (.builtin "sum") ∧ bootBuiltins (Str.ofString "min") = some (.builtin "min") ∧ bootBuiltins (Str.ofString "max") = some (.builtin "max") ∧
    bootBuiltins (Str.ofString "int") = some (.type "int") ∧ bootBuiltins (Str.ofString "range") = some (.type "range") ∧ bootBuiltins (Str.ofString "enumerate") = some (.type "enumerate") := by
  refine ⟨?_, ?_, ?_, ?_, ?_, ?_, ?_⟩ <;> decide +kernel
theorem join_all {p prog : Program} {w : World} {s₁ : Shared} {mg mb : Str → Option Value} {loose : List Str} {mean : ExcName → Option Value} {K : Frag} {vs : List Value} {xs : List Int} {Q E : Value → Shared → Prop}
    (S : Seen p) (Wr : Written K) (T : Top p loose mean mg mb s₁.heap) (KX : K.In s₁.heap) (hl : s₁.heap.get? 128 = some { cls := .type "list", data := .seq vs.toArray }) (hi : IntsAre vs xs) (hx : xs.length ≤ 700)
    (hQ : ∀ s', Stp s₁ s' → Q (.bool true) s') : wpAny (model prog w) callerA (call (.ref 127) [.ref 128]) Q E s₁ := by
  let X : Top0 := { prog := prog, w := w, W₀ := fun a => s₁.heap.get? a, mg := mg, mb := mb, g := fun h g => T.g.keeps g, b := fun h g => T.b.keeps g, lim := fun h g => T.nolimit.keeps g }
  obtain ⟨o, es, ep, g1, g2, n1, n2, ⟨tk, n3⟩, n4, n5, n6, n7, n8, n9, n10, n11⟩ := Wr.glob
  have hmg : ∀ x, nsFind es x = mg x := by
    obtain ⟨o', es', ep', e1, e2, _, e4⟩ := T.g
    rw [KX _ _ g1] at e1
    cases e1
    rw [g2] at e2
    cases e2
    exact e4
  obtain ⟨b1, b2, b3, b4, b5, b6, b7⟩ := boots
  have hmb : ∀ x : Str, x ≠ "__name__" → mb x = bootBuiltins x := T.builtins
  obtain ⟨po, pfs, poc, pcs, pn, q1, q2, q3, q4, q5, q6, q7, q8, q9, q10⟩ := Wr.pat1
  obtain ⟨po', pfs', poc', pcs', pn', q1', q2', q3', q4', q5', q6', q7', q8', q9', q10'⟩ := Wr.pat2
  let TT : Tops X := {
    d_hls := defAt T rfl S.r2, d_hsv := defAt T rfl S.r3, d_esc := defAt T rfl S.r5, d_strip := defAt T rfl S.r6, d_check := defAt T rfl S.r7, d_quote := defAt T rfl S.r12, d_word := defAt T rfl S.r14, d_ties := defAt T rfl S.r15, d_way := defAt T rfl S.r16,
    d_row := defAt T rfl S.r17, d_rows := defAt T rfl S.r18, d_even := defAt T rfl S.r19, d_next := defAt T rfl S.r20, d_law := defAt T rfl S.r21,
    a_pat1 := 71, a_pat2 := 76, v_pat1 := (hmg _).symm.trans n1, v_pat2 := (hmg _).symm.trans n2,
    pat1 := fun h g => ⟨po, pfs, 70, poc, pcs, pn, g _ _ (KX _ _ q1), q2, q3, q4, q5, q6, q7, g _ _ (KX _ _ q8), q9, q10⟩,
    pat2 := fun h g => ⟨po', pfs', 75, poc', pcs', pn', g _ _ (KX _ _ q1'), q2', q3', q4', q5', q6', q7', g _ _ (KX _ _ q8'), q9', q10'⟩,
    t_crlf := tk, crlf := (hmg _).symm.trans n3,
    n_len := (hmg _).symm.trans n4, b_len := (hmb _ (by decide +kernel)).trans b1, n_sum := (hmg _).symm.trans n5, b_sum := (hmb _ (by decide +kernel)).trans b2, n_min := (hmg _).symm.trans n6, b_min := (hmb _ (by decide +kernel)).trans b3,
    n_max := (hmg _).symm.trans n7, b_max := (hmb _ (by decide +kernel)).trans b4, n_int := (hmg _).symm.trans n8, b_int := (hmb _ (by decide +kernel)).trans b5, n_range := (hmg _).symm.trans n9, b_range := (hmb _ (by decide +kernel)).trans b6,
    n_enumerate := (hmg _).symm.trans n10, b_enumerate := (hmb _ (by decide +kernel)).trans b7 }
  have hf : TT.d_law.fa = 127 := by
    have e1 : mg (Str.ofString "law") = some (.ref TT.d_law.fa) := TT.d_law.hv
    have e2 : mg (Str.ofString "law") = some (.ref 127) := (hmg _).symm.trans n11
    have e3 := e1.symm.trans e2
    simp only [Option.some.injEq, Value.ref.injEq] at e3
    exact e3
  have hc := call_law TT
  rw [hf] at hc
  refine wpAny_noE (hc callerA X.W₀ s₁ [.ref 128] [.list (xs.map .int)] (.bool true) Q ⟨rfl, by decide, by decide⟩ .refl (fun a o e => e) (.cons (.list hl (ints_reps hi)) .nil) (law_is hx) fun v s' W' r rv => ?_)
  cases rv
  exact hQ s' r.stp
end Mine
end
open PySem PySem.W PySem.W.X PySem.W.ZRun PyProof.Rows
set_option maxRecDepth 100000 in
set_option maxHeartbeats 0 in
theorem PySem.Challenge.cw_rs0051_01_holds : PySem.Challenge.rw_rs0051_01.Holds := by
  w_on; o_law; z_head
  (case hw => w_witness2)
  k_fill
  intro w s₀ s₁ mg mb G y fa o pm cd doc dV kV ho hd hcd hD hmg hg args vals as L hpre hlay hrd hwl hlo
  z_open y L KX ZH ZN ZT
  refine Ground.open G ?_
  intro T B D TE TW
  wrow_args hpre hlay hrd hwl hlo
  obtain ⟨hat, hsz⟩ := script_at L
  have htk := script_toks L ZT
  rw [ZN] at hat hsz
  subst hat
  x_fa T KX hmg
  all_lens
  clear hd hcd hD hmg B D TE TW ho
  have hIs := ‹IntsAre _ _›
  have hLs := ‹Heap.IsList s₁.heap 128 _›
  show wpAny _ callerA (call (.ref 127) [.ref 128]) _ _ s₁
  refine Mine.join_all ?_ ?_ T KX (script_obj L hLs) hIs (by omega) fun s' st => ?_
  · exact ⟨⟨Mine.posOf (Mine.stmtAt 2), List.mem_of_getElem? (i := 0) (by kernel_rfl)⟩, ⟨Mine.posOf (Mine.stmtAt 3), List.mem_of_getElem? (i := 1) (by kernel_rfl)⟩, ⟨Mine.posOf (Mine.stmtAt 5), List.mem_of_getElem? (i := 2) (by kernel_rfl)⟩, ⟨Mine.posOf (Mine.stmtAt 6), List.mem_of_getElem? (i := 3) (by kernel_rfl)⟩, ⟨Mine.posOf (Mine.stmtAt 7), List.mem_of_getElem? (i := 4) (by kernel_rfl)⟩, ⟨Mine.posOf (Mine.stmtAt 12), List.mem_of_getElem? (i := 5) (by kernel_rfl)⟩, ⟨Mine.posOf (Mine.stmtAt 14), List.mem_of_getElem? (i := 6) (by kernel_rfl)⟩, ⟨Mine.posOf (Mine.stmtAt 15), List.mem_of_getElem? (i := 7) (by kernel_rfl)⟩, ⟨Mine.posOf (Mine.stmtAt 16), List.mem_of_getElem? (i := 8) (by kernel_rfl)⟩, ⟨Mine.posOf (Mine.stmtAt 17), List.mem_of_getElem? (i := 9) (by kernel_rfl)⟩, ⟨Mine.posOf (Mine.stmtAt 18), List.mem_of_getElem? (i := 10) (by kernel_rfl)⟩, ⟨Mine.posOf (Mine.stmtAt 19), List.mem_of_getElem? (i := 11) (by kernel_rfl)⟩, ⟨Mine.posOf (Mine.stmtAt 20), List.mem_of_getElem? (i := 12) (by kernel_rfl)⟩, ⟨Mine.posOf (Mine.stmtAt 21), List.mem_of_getElem? (i := 13) (by kernel_rfl)⟩⟩
  · exact { glob := ⟨_, _, _, rfl, rfl, by kernel_rfl, by kernel_rfl, ⟨_, rfl⟩, by kernel_rfl, by kernel_rfl, by kernel_rfl, by kernel_rfl, by kernel_rfl, by kernel_rfl, by kernel_rfl, by kernel_rfl⟩
            pat1 := ⟨_, _, _, _, _, rfl, rfl, rfl, rfl, rfl, rfl, rfl, rfl, rfl, by kernel_rfl⟩
            pat2 := ⟨_, _, _, _, _, rfl, rfl, rfl, rfl, rfl, rfl, rfl, rfl, rfl, by kernel_rfl⟩ }
  · exact ⟨.inl ⟨.bool true, .bool true, [], rfl, fun cls => rfl, .bool true, Mine.post_ok _, fun _ => ⟨.nil, fun a h => by cases h⟩⟩, .of_keep st.keep, st.os, st.bare (AllBare.of_eq hg)⟩
