import PyProof.Rows.All
import Wide.All
import OpenK.AllK
import Wide.FinOn
import PyProof.EnumMake
import PyProof.ZipIter
import PyProof.IsiH_list
import PyProof.StrLawsFrom
import PyProof.InstFacts
import PySem.Challenge.RW_ik0117_01
open PySem PySem.W PyProof.Rows PySem.Calls PySem.Spec
set_option maxRecDepth 100000
set_option Elab.async false
set_option linter.unusedVariables false
set_option linter.unusedSimpArgs false
namespace MineP
end MineP
namespace Mine
open MineP

/-- plain data of the mini calculus -/
inductive D where
  | none
  | bool (b : Bool)
  | int (i : Int)
  | str (x : Str)
  | list (ds : List D)
  | tuple (ds : List D)
  | obj (a : Addr)
  | typ (T : String)

noncomputable abbrev objO : Obj := { cls := .type "object", data := .plain }

mutual
inductive Den (W : List Addr) (h : Heap) : Value → D → Prop
  | none : Den W h .none .none
  | bool (b : Bool) : Den W h (.bool b) (.bool b)
  | int (i : Int) (t : Tok) : Den W h (.int i t) (.int i)
  | str (x : Str) (t : Tok) : Den W h (.str x t) (.str x)
  | list {a : Addr} {vs : List Value} {ds : List D} : a ∉ W → h.IsList a vs.toArray → Dens W h vs ds → Den W h (.ref a) (.list ds)
  | tuple {a : Addr} {vs : List Value} {ds : List D} : a ∉ W → h.IsTuple a vs.toArray → Dens W h vs ds → Den W h (.ref a) (.tuple ds)
  | obj {a : Addr} : a ∉ W → h.get? a = some objO → Den W h (.ref a) (.obj a)
  | typ (T : String) : Den W h (.type T) (.typ T)
inductive Dens (W : List Addr) (h : Heap) : List Value → List D → Prop
  | nil : Dens W h [] []
  | cons {v : Value} {vs : List Value} {d : D} {ds : List D} : Den W h v d → Dens W h vs ds → Dens W h (v :: vs) (d :: ds)
end

theorem ne_of_type {h : Heap} {a b : Addr} {o o' : Obj} (e : h.get? a = some o) (e' : h.get? b = some o') (n : o ≠ o') : a ≠ b := fun q => by
  subst q; rw [e] at e'; exact n (Option.some.inj e')

mutual
theorem Den.ext {W W' : List Addr} {h h' : Heap} (k : ∀ a o, a ∉ W → h.get? a = some o → h'.get? a = some o) (hw : ∀ a, a ∈ W' → a ∈ W ∨ h.get? a = .none) :
    ∀ {v : Value} {d : D}, Den W h v d → Den W' h' v d
  | _, _, .none => .none
  | _, _, .bool b => .bool b
  | _, _, .int i t => .int i t
  | _, _, .str x t => .str x t
  | _, _, .list n l r => .list (fun m => (hw _ m).elim n fun q => by obtain ⟨o, ho, _⟩ := l; rw [ho] at q; cases q) (let ⟨o, ho, r⟩ := l; ⟨o, k _ _ n ho, r⟩) (Dens.ext k hw r)
  | _, _, .tuple n l r => .tuple (fun m => (hw _ m).elim n fun q => by obtain ⟨o, ho, _⟩ := l; rw [ho] at q; cases q) (let ⟨o, ho, r⟩ := l; ⟨o, k _ _ n ho, r⟩) (Dens.ext k hw r)
  | _, _, .obj n l => .obj (fun m => (hw _ m).elim n fun q => by rw [l] at q; cases q) (k _ _ n l)
  | _, _, .typ T => .typ T
theorem Dens.ext {W W' : List Addr} {h h' : Heap} (k : ∀ a o, a ∉ W → h.get? a = some o → h'.get? a = some o) (hw : ∀ a, a ∈ W' → a ∈ W ∨ h.get? a = .none) :
    ∀ {vs : List Value} {ds : List D}, Dens W h vs ds → Dens W' h' vs ds
  | _, _, .nil => .nil
  | _, _, .cons r rs => .cons (Den.ext k hw r) (Dens.ext k hw rs)
end
theorem Den.sub {W W' : List Addr} {h : Heap} {v : Value} {d : D} (r : Den W h v d) (s : ∀ a, a ∈ W' → a ∈ W) : Den W' h v d := r.ext (fun _ _ _ e => e) fun a m => .inl (s a m)
theorem Dens.sub {W W' : List Addr} {h : Heap} {v : List Value} {d : List D} (r : Dens W h v d) (s : ∀ a, a ∈ W' → a ∈ W) : Dens W' h v d := r.ext (fun _ _ _ e => e) fun a m => .inl (s a m)

section
variable {W : List Addr} {h : Heap}
theorem Dens.length {vs : List Value} {ds : List D} (r : Dens W h vs ds) : vs.length = ds.length := by
  induction vs generalizing ds with
  | nil => cases r; rfl
  | cons v vs ih => cases r with | cons _ r => simp [ih r]
theorem Dens.get {vs : List Value} {ds : List D} (r : Dens W h vs ds) {i : Nat} {d : D} (e : ds[i]? = some d) : ∃ v, vs[i]? = some v ∧ Den W h v d := by
  induction vs generalizing ds i with
  | nil => cases r; cases e
  | cons v vs ih =>
    cases r with
    | cons r rs =>
      cases i with
      | zero => cases e; exact ⟨v, rfl, r⟩
      | succ i => exact ih rs e
theorem Dens.append {vs ws : List Value} {ds es : List D} (r : Dens W h vs ds) (k : Dens W h ws es) : Dens W h (vs ++ ws) (ds ++ es) := by
  induction vs generalizing ds with
  | nil => cases r; exact k
  | cons v vs ih => cases r with | cons r rs => exact .cons r (ih rs)
theorem Dens.take {vs : List Value} {ds : List D} (r : Dens W h vs ds) (n : Nat) : Dens W h (vs.take n) (ds.take n) := by
  induction vs generalizing ds n with
  | nil => cases r; simp; exact .nil
  | cons v vs ih => cases r with | cons r rs => cases n with | zero => exact .nil | succ n => exact .cons r (ih rs n)
theorem Dens.drop {vs : List Value} {ds : List D} (r : Dens W h vs ds) (n : Nat) : Dens W h (vs.drop n) (ds.drop n) := by
  induction vs generalizing ds n with
  | nil => cases r; simp; exact .nil
  | cons v vs ih => cases r with | cons r rs => cases n with | zero => exact .cons r rs | succ n => exact ih rs n
end

/-- the world a proof lives in -/
structure Wd where
  prog : Program
  w : World
  hb : Heap
  T : Addr
  mg : Str → Option Value
  mb : Str → Option Value
structure WOk (X : Wd) : Prop where
  g : X.hb.Ns mainGlobals X.mg
  b : X.hb.Ns builtinsNs X.mb
  lim : X.hb.NoLimit
  hid : X.hb.get? X.T = none

noncomputable abbrev Wd.M (X : Wd) : Model := model X.prog X.w
noncomputable abbrev NE : Value → Shared → Prop := fun _ _ => False

structure Bs (X : Wd) (s : Shared) : Prop where
  le : ∀ a o, X.hb.get? a = some o → s.heap.get? a = some o
  tab : ∃ ps, s.heap.get? X.T = some (tabObj ps) ∧ TriplesOk ps.toList
  bare : AllBare s.gens

/-- s' is reached from s by writes at W alone -/
structure Ext (W : List Addr) (s s' : Shared) : Prop where
  keep : ∀ a o, a ∉ W → s.heap.get? a = some o → s'.heap.get? a = some o
  dom : ∀ a o, s.heap.get? a = some o → ∃ o', s'.heap.get? a = some o'
  os : s'.os = s.os

theorem Ext.refl (W : List Addr) (s : Shared) : Ext W s s := ⟨fun _ _ _ e => e, fun _ o e => ⟨o, e⟩, rfl⟩
theorem Ext.trans {W W' : List Addr} {s s' s'' : Shared} (x : Ext W s s') (y : Ext W' s' s'') (h : ∀ a, a ∈ W' → a ∈ W ∨ s.heap.get? a = none) : Ext W s s'' :=
  ⟨fun a o n e => y.keep a o (fun m => (h a m).elim n fun q => by rw [e] at q; cases q) (x.keep a o n e),
   fun a o e => let ⟨_, e'⟩ := x.dom a o e; y.dom a _ e', y.os.trans x.os⟩
theorem Ext.trans' {W : List Addr} {s s' s'' : Shared} (x : Ext W s s') (y : Ext W s' s'') : Ext W s s'' := x.trans y fun _ m => .inl m
theorem Ext.sub {W W' : List Addr} {s s' : Shared} (x : Ext W s s') (h : ∀ a, a ∈ W → a ∈ W') : Ext W' s s' := ⟨fun a o n e => x.keep a o (fun m => n (h a m)) e, x.dom, x.os⟩
theorem Ext.none {W : List Addr} {s s' : Shared} (x : Ext W s s') {a : Addr} (e : s'.heap.get? a = none) : s.heap.get? a = none := by
  cases q : s.heap.get? a with
  | none => rfl
  | some o => obtain ⟨o', e'⟩ := x.dom a o q; rw [e] at e'; cases e'

noncomputable def AOk (n : Nat) (A : Around) : Prop := A.handled = none ∧ A.depth + n < recursionLimit ∧ A.units + 10 * n + 20 < cLine
theorem AOk.le {n m : Nat} {A : Around} (x : AOk n A) (h : m ≤ n) : AOk m A := ⟨x.1, by have := x.2.1; omega, by have := x.2.2; omega⟩
theorem AOk.deeper {n : Nat} {A : Around} (x : AOk (n + 1) A) (env : Env) : AOk n (A.deeper env) :=
  ⟨x.1, by have := x.2.1; show A.depth + 1 + n < _; omega, by have := x.2.2; show A.units + 3 + 10 * n + 20 < _; omega⟩
theorem AOk.room {n : Nat} {A : Around} (x : AOk n A) : A.depth < recursionLimit := by have := x.2.1; omega
theorem AOk.units {n : Nat} {A : Around} (x : AOk n A) : A.units < cLine := by have := x.2.2; omega

/-- a variable's slot: a value, a list of the frame's own that nothing else holds, its bound append -/
inductive Slot where
  | val (d : D)
  | own (a : Addr) (ds : List D)
  | app (a : Addr)
  | ro (a : Addr) (ds : List D)
noncomputable abbrev Sig := List (Option Slot)

structure Fm where
  env : Env
  lay : List (Str × Bool)
  glob : List Str
noncomputable def Fm.cell (F : Fm) (x : Str) : Addr := (F.env.cells.lookup x).getD 0
noncomputable def Fm.cellAs (F : Fm) : List Addr := (F.lay.filter (·.2)).map fun p => F.cell p.1
noncomputable def Slot.ownA : Option Slot → Option Addr
  | some (.own a _) => some a
  | _ => none
noncomputable def ownAs (σ : Sig) : List Addr := σ.filterMap Slot.ownA
noncomputable def Wr (X : Wd) (F : Fm) (σ : Sig) : List Addr := X.T :: F.env.locals :: (F.cellAs ++ ownAs σ)

structure FmOk (F : Fm) : Prop where
  kind : F.env.scope.kind = .function
  glo : F.env.globals = mainGlobals
  bui : F.env.builtins = builtinsNs
  names : ∀ p ∈ F.lay, F.env.kindOf p.1 = some (if p.2 then .cell else .local)
  globs : ∀ x ∈ F.glob, F.env.kindOf x = some .globalImplicit
  nodup : (F.lay.map (·.1)).Nodup
  cells : ∀ p ∈ F.lay, p.2 = true → ∃ c, F.env.cells.lookup p.1 = some c
  cellInj : ∀ x y, (x, true) ∈ F.lay → (y, true) ∈ F.lay → F.cell x = F.cell y → x = y
  dbgL : ∀ p ∈ F.lay, (p.1 == ("__debug__" : Str)) = false
  dbgG : ∀ x ∈ F.glob, (x == ("__debug__" : Str)) = false

noncomputable def Holds (F : Fm) (h : Heap) (m : Str → Option Value) (x : Str) (b : Bool) (v : Value) : Prop := match b with
  | true => h.IsCell (F.cell x) (some v)
  | false => m x = some v

noncomputable abbrev appObj (a : Addr) : Obj := { cls := .type "builtin_function_or_method", data := .fields #[.builtin "list.append", .ref a] }
noncomputable def SDen (W : List Addr) (h : Heap) (v : Value) : Slot → Prop
  | .val d => Den W h v d
  | .own a ds => v = .ref a ∧ ∃ vs, h.PlainList a vs.toArray ∧ Dens W h vs ds
  | .app a => ∃ q, v = .ref q ∧ q ∉ W ∧ h.get? q = some (appObj a)
  | .ro a ds => v = .ref a ∧ ∃ vs, h.IsList a vs.toArray ∧ Dens W h vs ds

noncomputable def VarsOk (F : Fm) (W : List Addr) (σ : Sig) (s : Shared) : Prop :=
  ∃ m, s.heap.Ns F.env.locals m ∧ ∀ (i : Nat) x b sl, F.lay[i]? = some (x, b) → σ[i]? = some (some sl) → ∃ v, Holds F s.heap m x b v ∧ SDen W s.heap v sl
structure Ok (X : Wd) (F : Fm) (Wo : List Addr) (σ : Sig) (s : Shared) : Prop where
  bs : Bs X s
  vars : VarsOk F (Wo ++ Wr X F σ) σ s
  cells : ∀ x, (x, true) ∈ F.lay → ∃ v, s.heap.IsCell (F.cell x) v
  lists : ∀ (i : Nat) a ds, σ[i]? = some (some (.own a ds)) → ∃ its, s.heap.PlainList a its
  fresh : ∀ a ∈ Wo ++ Wr X F σ, X.hb.get? a = none
  there : ∀ a ∈ Wo, ∃ o, s.heap.get? a = some o
  owns : (ownAs σ).Nodup
  ownOut : ∀ a ∈ ownAs σ, a ∉ Wo
end Mine
namespace Mine
open MineP

/-- objects that no state names: iterators, the code table -/
noncomputable def Inert (o : Obj) : Prop := (∃ vs, o.data = .fields vs) ∧ o.cls ≠ .type "builtin_function_or_method"
theorem Inert.tab (ps : Array Value) : Inert (tabObj ps) := ⟨⟨ps, rfl⟩, fun e => nomatch e⟩

structure Cx where
  X : Wd
  F : Fm
  Wo : List Addr
  n : Nat

noncomputable abbrev Cx.env (C : Cx) : Env := C.F.env
noncomputable abbrev Cx.W (C : Cx) (σ : Sig) : List Addr := C.Wo ++ Wr C.X C.F σ
noncomputable abbrev Cx.Ok (C : Cx) (σ : Sig) (s : Shared) : Prop := Mine.Ok C.X C.F C.Wo σ s

section
variable {X : Wd} {F : Fm} {Wo : List Addr} {σ : Sig} {s s' : Shared}
theorem mem_T : X.T ∈ Wo ++ Wr X F σ := List.mem_append_right _ (.head _)
theorem mem_L : F.env.locals ∈ Wo ++ Wr X F σ := List.mem_append_right _ (.tail _ (.head _))
theorem mem_own {i : Nat} {a : Addr} {ds : List D} (e : σ[i]? = some (some (.own a ds))) : a ∈ ownAs σ :=
  List.mem_filterMap.mpr ⟨_, List.mem_of_getElem? e, rfl⟩
theorem own_mem {a : Addr} (m : a ∈ ownAs σ) : ∃ (i : Nat) (ds : List D), σ[i]? = some (some (.own a ds)) := by
  obtain ⟨x, hx, e⟩ := List.mem_filterMap.mp m
  obtain ⟨i, hi⟩ := List.getElem?_of_mem hx
  unfold Slot.ownA at e
  split at e
  · cases e; exact ⟨i, _, hi⟩
  · cases e
theorem cell_mem {a : Addr} (m : a ∈ F.cellAs) : ∃ x, (x, true) ∈ F.lay ∧ a = F.cell x := by
  obtain ⟨p, hp, rfl⟩ := List.mem_map.mp m
  obtain ⟨h1, h2⟩ := List.mem_filter.mp hp
  obtain ⟨x, b⟩ := p
  dsimp only at h2
  subst h2
  exact ⟨x, h1, rfl⟩
theorem mem_cell {x : Str} (m : (x, true) ∈ F.lay) : F.cell x ∈ F.cellAs := List.mem_map.mpr ⟨(x, true), List.mem_filter.mpr ⟨m, rfl⟩, rfl⟩

theorem Ok.live (O : Ok X F Wo σ s) : ∀ a ∈ Wo ++ Wr X F σ, ∃ o, s.heap.get? a = some o := by
  intro a ha
  rcases List.mem_append.mp ha with h | h
  · exact O.there a h
  rcases List.mem_cons.mp h with rfl | h
  · obtain ⟨ps, e, _⟩ := O.bs.tab; exact ⟨_, e⟩
  rcases List.mem_cons.mp h with rfl | h
  · obtain ⟨m, ⟨o, _, _, e, _⟩, _⟩ := O.vars; exact ⟨o, e⟩
  rcases List.mem_append.mp h with h | h
  · obtain ⟨x, hx, rfl⟩ := cell_mem h
    obtain ⟨v, o, e, _⟩ := O.cells x hx; exact ⟨o, e⟩
  · obtain ⟨i, ds, e⟩ := own_mem h
    obtain ⟨its, n, e⟩ := O.lists i a ds e; exact ⟨_, e⟩
theorem Ok.off (O : Ok X F Wo σ s) {a : Addr} (e : s.heap.get? a = none) : a ∉ Wo ++ Wr X F σ := fun m => by
  obtain ⟨o, q⟩ := O.live a m; rw [e] at q; cases q

theorem not_inert {o : Obj} (h : ∀ vs, o.data ≠ .fields vs) : ¬ Inert o := fun ⟨⟨vs, e⟩, _⟩ => h vs e
section
variable {h h' : Heap}
theorem isCell_up (k : ∀ a o, h.get? a = some o → ¬ Inert o → h'.get? a = some o) {c : Addr} {v : Option Value} : h.IsCell c v → h'.IsCell c v := fun ⟨o, e, d⟩ => ⟨o, k _ _ e (not_inert fun vs q => by rw [d] at q; cases q), d⟩
theorem isList_up (k : ∀ a o, h.get? a = some o → ¬ Inert o → h'.get? a = some o) {c : Addr} {its : Array Value} : h.IsList c its → h'.IsList c its := fun ⟨o, e, d, n, q⟩ => ⟨o, k _ _ e (not_inert fun vs z => by rw [q] at z; cases z), d, n, q⟩
theorem plain_up (k : ∀ a o, h.get? a = some o → ¬ Inert o → h'.get? a = some o) {c : Addr} {its : Array Value} : h.PlainList c its → h'.PlainList c its := fun ⟨n, e⟩ => ⟨n, k _ _ e (not_inert fun vs q => by cases q)⟩
theorem ns_up (k : ∀ a o, h.get? a = some o → ¬ Inert o → h'.get? a = some o) {c : Addr} {m : Str → Option Value} : h.Ns c m → h'.Ns c m := fun ⟨o, es, ep, e, d, r⟩ => ⟨o, es, ep, k _ _ e (not_inert fun vs q => by rw [d] at q; cases q), d, r⟩
mutual
theorem den_up {W W' : List Addr} (k : ∀ a o, h.get? a = some o → ¬ Inert o → h'.get? a = some o) (hw : ∀ a, a ∈ W' → a ∈ W ∨ h.get? a = none) : ∀ {v : Value} {d : D}, Den W h v d → Den W' h' v d
  | _, _, .none => .none
  | _, _, .bool b => .bool b
  | _, _, .int i t => .int i t
  | _, _, .str x t => .str x t
  | _, _, .list n l r => .list (fun m => (hw _ m).elim n fun q => by obtain ⟨o, ho, _⟩ := l; rw [ho] at q; cases q) (let ⟨o, e, c, j, d⟩ := l; ⟨o, k _ _ e (not_inert fun vs q => by rw [d] at q; cases q), c, j, d⟩) (dens_up k hw r)
  | _, _, .tuple n l r => .tuple (fun m => (hw _ m).elim n fun q => by obtain ⟨o, ho, _⟩ := l; rw [ho] at q; cases q) (let ⟨o, e, c, j, d⟩ := l; ⟨o, k _ _ e (not_inert fun vs q => by rw [d] at q; cases q), c, j, d⟩) (dens_up k hw r)
  | _, _, .obj n l => .obj (fun m => (hw _ m).elim n fun q => by rw [l] at q; cases q) (k _ _ l (not_inert fun vs q => by cases q))
  | _, _, .typ T => .typ T
theorem dens_up {W W' : List Addr} (k : ∀ a o, h.get? a = some o → ¬ Inert o → h'.get? a = some o) (hw : ∀ a, a ∈ W' → a ∈ W ∨ h.get? a = none) : ∀ {vs : List Value} {ds : List D}, Dens W h vs ds → Dens W' h' vs ds
  | _, _, .nil => .nil
  | _, _, .cons r rs => .cons (den_up k hw r) (dens_up k hw rs)
end
theorem sden_up {W W' : List Addr} (k : ∀ a o, h.get? a = some o → ¬ Inert o → h'.get? a = some o) (hw : ∀ a, a ∈ W' → a ∈ W ∨ h.get? a = none) {v : Value} {sl : Slot} (r : SDen W h v sl) : SDen W' h' v sl := by
  cases sl with
  | val d => exact den_up k hw r
  | own a ds => obtain ⟨e, vs, p, r⟩ := r; exact ⟨e, vs, plain_up k p, dens_up k hw r⟩
  | app a => obtain ⟨q, e, n, g⟩ := r; exact ⟨q, e, (fun m => (hw _ m).elim n fun z => by rw [g] at z; cases z), k _ _ g fun i => i.2 rfl⟩
  | ro a ds => obtain ⟨e, vs, l, r⟩ := r; exact ⟨e, vs, isList_up k l, dens_up k hw r⟩
end
theorem VarsOk.ext {W W' : List Addr} (V : VarsOk F W σ s) (k : ∀ a o, s.heap.get? a = some o → ¬ Inert o → s'.heap.get? a = some o) (hw : ∀ a, a ∈ W' → a ∈ W ∨ s.heap.get? a = none) : VarsOk F W' σ s' := by
  obtain ⟨m, hn, hv⟩ := V
  refine ⟨m, ns_up k hn, fun i y c sl h1 h2 => ?_⟩
  obtain ⟨v, hh, hs⟩ := hv i y c sl h1 h2
  refine ⟨v, ?_, sden_up k hw hs⟩
  cases c with
  | true => exact isCell_up k hh
  | false => exact hh
theorem Ext.inert {W' : List Addr} (x : Ext W' s s') (hW : ∀ a ∈ W', ∀ o, s.heap.get? a = some o → Inert o) : ∀ a o, s.heap.get? a = some o → ¬ Inert o → s'.heap.get? a = some o :=
  fun a o e n => x.keep a o (fun m => n (hW a m o e)) e
/-- what is written at inert objects alone leaves the state as it is -/
theorem Ok.ext {W' : List Addr} (O : Ok X F Wo σ s) (x : Ext W' s s') (hW : ∀ a ∈ W', ∀ o, s.heap.get? a = some o → Inert o) (b : Bs X s') : Ok X F Wo σ s' := by
  have k := x.inert hW
  exact ⟨b, O.vars.ext k fun _ m => .inl m, fun y hy => let ⟨v, q⟩ := O.cells y hy; ⟨v, isCell_up k q⟩, fun i a ds e => let ⟨its, q⟩ := O.lists i a ds e; ⟨its, plain_up k q⟩, O.fresh,
    fun a ha => let ⟨o, e⟩ := O.there a ha; x.dom a o e, O.owns, O.ownOut⟩
theorem Ok.keepOff {W' : List Addr} (O : Ok X F Wo σ s) (k : ∀ a o, a ∉ W' → s.heap.get? a = some o → s'.heap.get? a = some o) (hW : ∀ a ∈ W', ∀ o, s.heap.get? a = some o → Inert o) (hWo : ∀ a ∈ Wo, a ∉ W') (b : Bs X s') : Ok X F Wo σ s' := by
  have k' : ∀ a o, s.heap.get? a = some o → ¬ Inert o → s'.heap.get? a = some o := fun a o e n => k a o (fun m => n (hW a m o e)) e
  exact ⟨b, O.vars.ext k' fun _ m => .inl m, fun y hy => let ⟨v, q⟩ := O.cells y hy; ⟨v, isCell_up k' q⟩, fun i a ds e => let ⟨its, q⟩ := O.lists i a ds e; ⟨its, plain_up k' q⟩, O.fresh,
    fun a ha => let ⟨o, e⟩ := O.there a ha; ⟨o, k a o (hWo a ha) e⟩, O.owns, O.ownOut⟩
theorem Bs.inertT (b : Bs X s) : ∀ a ∈ [X.T], ∀ o, s.heap.get? a = some o → Inert o := fun a ha o e => by
  rw [List.mem_singleton.mp ha] at e
  obtain ⟨ps, e', _⟩ := b.tab
  rw [e'] at e; cases e; exact Inert.tab ps
theorem Ok.extT (O : Ok X F Wo σ s) (x : Ext [X.T] s s') (b : Bs X s') : Ok X F Wo σ s' := O.ext x O.bs.inertT b
end

/-- a tree run in a frame: it writes nothing that the state names -/
noncomputable def Run (C : Cx) (σ : Sig) {α : Type} (t : Sem α) (P : Shared → α → Shared → Prop) : Prop :=
  ∀ (A : Around) (s : Shared) (Q : α → Shared → Prop), AOk C.n A → C.Ok σ s →
    (∀ a s', Ext [C.X.T] s s' → C.Ok σ s' → P s a s' → Q a s') → wpAny C.X.M A t Q NE s

structure EvE (C : Cx) (σ : Sig) (e : Expr) (d : D) : Prop where
  run : Run C σ (eval e C.env) fun _ v s' => Den (C.W σ) s'.heap v d
/-- a list that is read at once (it may be one of the frame's own) -/
noncomputable def ListAt (W : List Addr) (h : Heap) (v : Value) (ds : List D) : Prop := ∃ a vs, v = .ref a ∧ h.IsList a vs.toArray ∧ Dens W h vs ds
structure EvL (C : Cx) (σ : Sig) (e : Expr) (ds : List D) : Prop where
  run : Run C σ (eval e C.env) fun _ v s' => ListAt (C.W σ) s'.heap v ds
/-- a new list -/
structure EvN (C : Cx) (σ : Sig) (e : Expr) (ds : List D) : Prop where
  run : Run C σ (eval e C.env) fun s v s' => ∃ a vs, v = .ref a ∧ s.heap.get? a = none ∧ s'.heap.PlainList a vs.toArray ∧ Dens (a :: C.W σ) s'.heap vs ds
structure EvT (C : Cx) (σ : Sig) (e : Expr) (b : Bool) : Prop where
  run : Run C σ (isTrue e C.env (eval e C.env)) fun _ v _ => v = b

section
variable {C : Cx} {σ : Sig} {s s' : Shared}
theorem Den.up {v : Value} {d : D} (r : Den (C.W σ) s.heap v d) (x : Ext [C.X.T] s s') : Den (C.W σ) s'.heap v d :=
  r.ext (fun a o n e => x.keep a o (fun m => n (by rw [List.mem_singleton.mp m]; exact mem_T)) e) fun _ m => .inl m
theorem Dens.up {v : List Value} {d : List D} (r : Dens (C.W σ) s.heap v d) (x : Ext [C.X.T] s s') : Dens (C.W σ) s'.heap v d :=
  r.ext (fun a o n e => x.keep a o (fun m => n (by rw [List.mem_singleton.mp m]; exact mem_T)) e) fun _ m => .inl m
theorem ListAt.up {v : Value} {ds : List D} (O : C.Ok σ s) (r : ListAt (C.W σ) s.heap v ds) (x : Ext [C.X.T] s s') : ListAt (C.W σ) s'.heap v ds := by
  obtain ⟨a, vs, e, ⟨o, h1, h2, k, h3⟩, r⟩ := r
  refine ⟨a, vs, e, ⟨o, x.keep a o (fun m => ?_) h1, h2, k, h3⟩, r.up x⟩
  rw [List.mem_singleton.mp m] at h1
  obtain ⟨ps, e', _⟩ := O.bs.tab
  rw [e'] at h1; cases h1; cases h2
theorem Ext.toks {W : List Addr} {s : Shared} {t : Nat} : Ext W s { s with toks := t } := ⟨fun _ _ _ e => e, fun _ o e => ⟨o, e⟩, rfl⟩
theorem Bs.toks {X : Wd} {s : Shared} {t : Nat} (b : Bs X s) : Bs X { s with toks := t } := ⟨b.le, b.tab, b.bare⟩
theorem Ok.toks {X : Wd} {F : Fm} {Wo : List Addr} {t : Nat} (O : Ok X F Wo σ s) : Ok X F Wo σ { s with toks := t } := O.extT Ext.toks O.bs.toks
theorem Ext.push {W : List Addr} {s : Shared} {o : Obj} {t : Nat} : Ext W s { s with heap := s.heap.push o, toks := t } :=
  ⟨fun _ _ _ e => Heap.get?_push_of_some _ e, fun _ o e => ⟨o, Heap.get?_push_of_some _ e⟩, rfl⟩
theorem Bs.push {X : Wd} {s : Shared} {o : Obj} {t : Nat} (b : Bs X s) : Bs X { s with heap := s.heap.push o, toks := t } :=
  ⟨fun a o e => Heap.get?_push_of_some _ (b.le a o e), let ⟨ps, e, r⟩ := b.tab; ⟨ps, Heap.get?_push_of_some _ e, r⟩, b.bare⟩
theorem Ok.push {X : Wd} {F : Fm} {Wo : List Addr} {o : Obj} {t : Nat} (O : Ok X F Wo σ s) : Ok X F Wo σ { s with heap := s.heap.push o, toks := t } := O.extT Ext.push O.bs.push
theorem get_size {h : Heap} : h.get? h.objs.size = none := by
  cases e : h.get? h.objs.size with
  | none => rfl
  | some o => exact absurd (Heap.lt_size e) (Nat.lt_irrefl _)
theorem Dens.push {W : List Addr} {h : Heap} {o : Obj} {vs : List Value} {ds : List D} (r : Dens W h vs ds) : Dens W (h.push o) vs ds := r.ext (fun _ _ _ e => Heap.get?_push_of_some _ e) fun _ m => .inl m

theorem EvN.l {e : Expr} {ds : List D} (h : EvN C σ e ds) : EvL C σ e ds := .mk fun A s Q hA O hQ =>
  h.run A s Q hA O fun v s' x O' ⟨a, vs, e, _, p, r⟩ => hQ v s' x O' ⟨a, vs, e, p.isList, r.sub fun _ m => .tail _ m⟩
theorem EvN.e {e : Expr} {ds : List D} (h : EvN C σ e ds) : EvE C σ e (.list ds) := .mk fun A s Q hA O hQ =>
  h.run A s Q hA O fun v s' x O' ⟨a, vs, e, n, p, r⟩ => hQ v s' x O' (by subst e; exact .list (O.off n) p.isList (r.sub fun _ m => .tail _ m))
theorem EvE.l {e : Expr} {ds : List D} (h : EvE C σ e (.list ds)) : EvL C σ e ds := .mk fun A s Q hA O hQ =>
  h.run A s Q hA O fun v s' x O' r => hQ v s' x O' (by cases r with | list n l r => exact ⟨_, _, rfl, l, r⟩)

-- constants
theorem EvE.int {i : Int} {k : Nat} {p : Pos} : EvE C σ (.Constant (.int i) k p) (.int i) := .mk fun A s Q _ O hQ =>
  wpAny_Constant_int (hQ _ _ Ext.toks O.toks (.int i _))
theorem EvE.str {x : Str} {k : Nat} {p : Pos} : EvE C σ (.Constant (.str x) k p) (.str x) := .mk fun A s Q _ O hQ =>
  wpAny_Constant_str (hQ _ _ Ext.toks O.toks (.str x _))
theorem EvE.bool {b : Bool} {k : Nat} {p : Pos} : EvE C σ (.Constant (.bool b) k p) (.bool b) := .mk fun A s Q _ O hQ =>
  wpAny_Constant_bool (hQ _ _ (Ext.refl _ _) O (.bool b))

-- operations
noncomputable def OpB (C : Cx) (σ : Sig) (f : Value → Value → Sem Value) (a b r : D) : Prop :=
  ∀ (A : Around) (s : Shared) (Q : Value → Shared → Prop) (va vb : Value), AOk C.n A → C.Ok σ s → Den (C.W σ) s.heap va a → Den (C.W σ) s.heap vb b →
    (∀ v s', Ext [C.X.T] s s' → C.Ok σ s' → Den (C.W σ) s'.heap v r → Q v s') → wpAny C.X.M A (f va vb) Q NE s
theorem EvE.bin {l r : Expr} {op : Operator} {p : Pos} {a b d : D} (h1 : EvE C σ l a) (h2 : EvE C σ r b) (ho : OpB C σ (binaryOp op) a b d) : EvE C σ (.BinOp l op r p) d := .mk fun A s Q hA O hQ =>
  wpAny_BinOp (h1.run A s _ hA O fun v1 s1 x1 O1 d1 => h2.run A s1 _ hA O1 fun v2 s2 x2 O2 d2 => ho A s2 _ v1 v2 hA O2 (d1.up x2) d2 fun v s3 x3 O3 d3 => hQ v s3 ((x1.trans' x2).trans' x3) O3 d3)
theorem EvE.cmp {l r : Expr} {op : CmpOp} {p : Pos} {a b d : D} (h1 : EvE C σ l a) (h2 : EvE C σ r b) (ho : OpB C σ (compareOp op) a b d) (hm : behindInMarks op r = false := by with_unfolding_all rfl) :
    EvE C σ (.Compare l [op] [r] p) d := .mk fun A s Q hA O hQ =>
  wpAny_Compare1 (h1.run A s _ hA O fun v1 s1 x1 O1 d1 => h2.run A s1 _ hA O1 fun v2 s2 x2 O2 d2 => ho A s2 _ v1 v2 hA O2 (d1.up x2) d2 fun v s3 x3 O3 d3 => hQ v s3 ((x1.trans' x2).trans' x3) O3 d3) hm
noncomputable def truD : D → Option Bool
  | .bool b => some b
  | .int i => some (i != 0)
  | .str x => some (x.length != 0)
  | .none => some false
  | _ => none
theorem EvT.cmp {l r : Expr} {op : CmpOp} {p : Pos} {a b : D} {c : Bool} (h1 : EvE C σ l a) (h2 : EvE C σ r b) (ho : OpB C σ (compareOp op) a b (.bool c)) (hm : behindInMarks op r = false := by with_unfolding_all rfl) :
    EvT C σ (.Compare l [op] [r] p) c := .mk fun A s Q hA O hQ =>
  wpAny_isTrue_Compare1 (h1.run A s _ hA O fun v1 s1 x1 O1 d1 => h2.run A s1 _ hA O1 fun v2 s2 x2 O2 d2 => ho A s2 _ v1 v2 hA O2 (d1.up x2) d2 fun v s3 x3 O3 d3 => by
    cases d3
    exact wpAny_truthy_bool (hQ _ _ ((x1.trans' x2).trans' x3) O3 rfl)) hm
end
end Mine
namespace Mine
open MineP
section
variable {C : Cx} {σ : Sig} {a b : Int} {x y : Str}
theorem OpB.of_int {f : Value → Value → Sem Value} {p q r : D} (h : ∀ (A : Around) (s : Shared) (Q : Value → Shared → Prop) (va vb : Value), AOk C.n A → C.Ok σ s → Den (C.W σ) s.heap va p → Den (C.W σ) s.heap vb q →
    (∀ v t, Den (C.W σ) s.heap v r → Q v { s with toks := t }) → wpAny C.X.M A (f va vb) Q NE s) : OpB C σ f p q r := fun A s Q va vb hA O da db hQ =>
  h A s Q va vb hA O da db fun v t d => hQ v _ Ext.toks O.toks d
theorem OpB.add_int : OpB C σ (binaryOp .Add) (.int a) (.int b) (.int (a + b)) := .of_int fun A s Q va vb _ _ da db hQ => by cases da; cases db; exact P.add_int (hQ _ _ (.int _ _))
theorem OpB.sub_int : OpB C σ (binaryOp .Sub) (.int a) (.int b) (.int (a - b)) := .of_int fun A s Q va vb _ _ da db hQ => by cases da; cases db; exact P.sub_int (hQ _ _ (.int _ _))
theorem OpB.mul_int (h : IntMulOk a b) : OpB C σ (binaryOp .Mult) (.int a) (.int b) (.int (a * b)) := .of_int fun A s Q va vb _ _ da db hQ => by cases da; cases db; exact P.mul_int (hQ _ _ (.int _ _)) h
theorem OpB.mod_int (h : b ≠ 0) : OpB C σ (binaryOp .Mod) (.int a) (.int b) (.int (a.fmod b)) := .of_int fun A s Q va vb _ _ da db hQ => by cases da; cases db; exact mod_int' h (hQ _ _ (.int _ _))
theorem OpB.div_int (h : b ≠ 0) (hp : Builtin.divisionGoesByPylong a b = false) : OpB C σ (binaryOp .FloorDiv) (.int a) (.int b) (.int (a.fdiv b)) := .of_int fun A s Q va vb _ _ da db hQ => by
  cases da; cases db; exact floordiv_int h (hQ _ _ (.int _ _)) (.inl hp)
theorem OpB.pow_int (h : 0 ≤ b) (hs : (Builtin.Int.intBits a : Int) * b ≤ 2 ^ 27) : OpB C σ (binaryOp .Pow) (.int a) (.int b) (.int (a ^ b.toNat)) := .of_int fun A s Q va vb _ _ da db hQ => by
  cases da; cases db; exact PyProof.Rows.pow_int h hs (hQ _ _ (.int _ _))
theorem OpB.and_int : OpB C σ (binaryOp .BitAnd) (.int a) (.int b) (.int (Builtin.bitAnd a b)) := .of_int fun A s Q va vb _ _ da db hQ => by cases da; cases db; exact PyProof.Rows.and_int (hQ _ _ (.int _ _))
theorem OpB.sub_bool {p q : Bool} : OpB C σ (binaryOp .Sub) (.bool p) (.bool q) (.int (b2i p - b2i q)) := .of_int fun A s Q va vb _ _ da db hQ => by cases da; cases db; exact PyProof.Rows.sub_bool (hQ _ _ (.int _ _))
theorem OpB.add_str (h : x.length + y.length ≤ sizeLine) : OpB C σ (binaryOp .Add) (.str x) (.str y) (.str (x ++ y)) := .of_int fun A s Q va vb _ _ da db hQ => by
  cases da; cases db; exact PyProof.Rows.add_str (fun t tk => hQ _ _ (.str _ _)) h

theorem OpB.eq_int : OpB C σ (compareOp .Eq) (.int a) (.int b) (.bool (a == b)) := .of_int fun A s Q va vb _ _ da db hQ => by cases da; cases db; exact P.eq_int (hQ _ s.toks (.bool _))
theorem OpB.ne_int : OpB C σ (compareOp .NotEq) (.int a) (.int b) (.bool (a != b)) := .of_int fun A s Q va vb _ _ da db hQ => by cases da; cases db; exact P.ne_int (hQ _ s.toks (.bool _))
theorem OpB.lt_int : OpB C σ (compareOp .Lt) (.int a) (.int b) (.bool (decide (a < b))) := .of_int fun A s Q va vb _ _ da db hQ => by cases da; cases db; exact P.lt_int (hQ _ s.toks (.bool _))
theorem OpB.le_int : OpB C σ (compareOp .LtE) (.int a) (.int b) (.bool (decide (a ≤ b))) := .of_int fun A s Q va vb _ _ da db hQ => by cases da; cases db; exact P.le_int (hQ _ s.toks (.bool _))
theorem OpB.gt_int : OpB C σ (compareOp .Gt) (.int a) (.int b) (.bool (decide (a > b))) := .of_int fun A s Q va vb _ _ da db hQ => by cases da; cases db; exact P.gt_int (hQ _ s.toks (.bool _))
theorem OpB.ge_int : OpB C σ (compareOp .GtE) (.int a) (.int b) (.bool (decide (a ≥ b))) := .of_int fun A s Q va vb _ _ da db hQ => by cases da; cases db; exact P.ge_int (hQ _ s.toks (.bool _))
theorem OpB.eq_str : OpB C σ (compareOp .Eq) (.str x) (.str y) (.bool (x.cps.toList == y.cps.toList)) := .of_int fun A s Q va vb _ _ da db hQ => by cases da; cases db; exact P.eq_str (hQ _ s.toks (.bool _))
theorem OpB.ne_str : OpB C σ (compareOp .NotEq) (.str x) (.str y) (.bool (x.cps.toList != y.cps.toList)) := .of_int fun A s Q va vb _ _ da db hQ => by cases da; cases db; exact P.ne_str (hQ _ s.toks (.bool _))
theorem OpB.lt_str : OpB C σ (compareOp .Lt) (.str x) (.str y) (.bool (decide (x.cps.toList < y.cps.toList))) := .of_int fun A s Q va vb _ _ da db hQ => by cases da; cases db; exact P.lt_str (hQ _ s.toks (.bool _))
theorem OpB.le_str : OpB C σ (compareOp .LtE) (.str x) (.str y) (.bool (!decide (y.cps.toList < x.cps.toList))) := .of_int fun A s Q va vb _ _ da db hQ => by cases da; cases db; exact P.le_str (hQ _ s.toks (.bool _))
theorem OpB.gt_str : OpB C σ (compareOp .Gt) (.str x) (.str y) (.bool (decide (y.cps.toList < x.cps.toList))) := .of_int fun A s Q va vb _ _ da db hQ => by cases da; cases db; exact P.gt_str (hQ _ s.toks (.bool _))
theorem OpB.ne_bool {p q : Bool} : OpB C σ (compareOp .NotEq) (.bool p) (.bool q) (.bool (!(p == q))) := .of_int fun A s Q va vb _ _ da db hQ => by
  cases da; cases db; exact EqBoolInt.of_rcne (SeqAt.RcNeAt.bool_bool p q) (hQ _ s.toks (.bool _))

-- truth
theorem EvT.val {e : Expr} {d : D} {c : Bool} (h : EvE C σ e d) (ht : truD d = some c) (hs : ∀ x, d = .str x → x.length < 2 ^ 63) (he : isTrue e C.env (eval e C.env) = (do let v ← eval e C.env; standAt e.pos; holding [v] (truthy v)) := by rfl) : EvT C σ e c := .mk fun A s Q hA O hQ => by
  refine wpAny_isTrue_value (h.run A s _ hA O fun v s1 x1 O1 d1 => ?_) he
  cases d1 with
  | none => cases ht; exact wpAny_pure (hQ _ _ x1 O1 rfl)
  | bool b => cases ht; exact wpAny_truthy_bool (hQ _ _ x1 O1 rfl)
  | int i t => cases ht; exact P.truthy_int (hQ _ _ x1 O1 rfl)
  | str x t => cases ht; exact P.truthy_str (by have := hs x rfl; omega) (hQ _ _ (x1.trans' Ext.toks) O1.toks (by dsimp only; rw [Bool.eq_iff_iff]; simp))
  | _ => cases ht
theorem EvT.not {e : Expr} {p : Pos} {c : Bool} (h : EvT C σ e c) : EvT C σ (.UnaryOp .Not e p) (!c) := .mk fun A s Q hA O hQ =>
  wpAny_isTrue_Not (h.run A s _ hA O fun b s1 x1 O1 e1 => hQ _ s1 x1 O1 (by rw [e1]))
theorem EvT.and2 {e f : Expr} {p : Pos} {c d : Bool} (h : EvT C σ e c) (k : c = true → EvT C σ f d) : EvT C σ (.BoolOp .And [e, f] p) (c && d) := .mk fun A s Q hA O hQ =>
  wpAny_isTrue_BoolOp (wpAny_allTrue_And_cons (h.run A s _ hA O fun b s1 x1 O1 e1 => by
    subst e1
    cases b with
    | false => exact hQ _ s1 x1 O1 rfl
    | true => exact wpAny_allTrue_And_cons ((k rfl).run A s1 _ hA O1 fun b s2 x2 O2 e2 => by
        subst e2
        cases b with
        | false => exact hQ _ s2 (x1.trans' x2) O2 rfl
        | true => exact wpAny_allTrue_And_nil (hQ _ s2 (x1.trans' x2) O2 rfl))))
theorem EvT.or2 {e f : Expr} {p : Pos} {c d : Bool} (h : EvT C σ e c) (k : c = false → EvT C σ f d) : EvT C σ (.BoolOp .Or [e, f] p) (c || d) := .mk fun A s Q hA O hQ =>
  wpAny_isTrue_BoolOp (wpAny_allTrue_Or_cons (h.run A s _ hA O fun b s1 x1 O1 e1 => by
    subst e1
    cases b with
    | true => exact hQ _ s1 x1 O1 rfl
    | false => exact wpAny_allTrue_Or_cons ((k rfl).run A s1 _ hA O1 fun b s2 x2 O2 e2 => by
        subst e2
        cases b with
        | true => exact hQ _ s2 (x1.trans' x2) O2 rfl
        | false => exact wpAny_allTrue_Or_nil (hQ _ s2 (x1.trans' x2) O2 rfl))))
theorem EvE.ifexp_t {t e f : Expr} {p : Pos} {d : D} (h : EvT C σ t true) (k : EvE C σ e d) : EvE C σ (.IfExp t e f p) d := .mk fun A s Q hA O hQ =>
  wpAny_IfExp (h.run A s _ hA O fun b s1 x1 O1 e1 => by subst e1; exact k.run A s1 _ hA O1 fun v s2 x2 O2 d2 => hQ v s2 (x1.trans' x2) O2 d2)
theorem EvE.ifexp_f {t e f : Expr} {p : Pos} {d : D} (h : EvT C σ t false) (k : EvE C σ f d) : EvE C σ (.IfExp t e f p) d := .mk fun A s Q hA O hQ =>
  wpAny_IfExp (h.run A s _ hA O fun b s1 x1 O1 e1 => by subst e1; exact k.run A s1 _ hA O1 fun v s2 x2 O2 d2 => hQ v s2 (x1.trans' x2) O2 d2)
theorem EvE.neg {e : Expr} {p : Pos} (h : EvE C σ e (.int a)) : EvE C σ (.UnaryOp .USub e p) (.int (-a)) := .mk fun A s Q hA O hQ =>
  wpAny_UnaryOp (h.run A s _ hA O fun v s1 x1 O1 d1 => by cases d1; exact P.neg_int (hQ _ _ (x1.trans' Ext.toks) O1.toks (.int _ _)))

-- names
theorem EvE.name {C : Cx} {σ : Sig} (hF : FmOk C.F) {i : Nat} {x : Str} {b : Bool} {p : Pos} {d : D} (e1 : C.F.lay[i]? = some (x, b)) (e2 : σ[i]? = some (some (.val d))) : EvE C σ (.Name x p) d := .mk fun A s Q hA O hQ => by
  obtain ⟨m, hn, hv⟩ := O.vars
  obtain ⟨v, hh, hd⟩ := hv i x b _ e1 e2
  have hm := List.mem_of_getElem? e1
  have fin : Q v s := hQ v s (Ext.refl _ _) O hd
  refine wpAny_Name ?_ (hF.dbgL _ hm)
  cases b with
  | false => exact wpAny_loadName_local hF.kind (hF.names _ hm) hn hh fin
  | true =>
    obtain ⟨c, hc⟩ := hF.cells _ hm rfl
    refine wpAny_loadName_cell hF.kind (hF.names _ hm) hc (v := v) ?_ fin
    have : C.F.cell x = c := by unfold Fm.cell; rw [hc]; rfl
    rw [← this]; exact hh
theorem EvL.name {C : Cx} {σ : Sig} (hF : FmOk C.F) {i : Nat} {x : Str} {b : Bool} {p : Pos} {a : Addr} {ds : List D} (e1 : C.F.lay[i]? = some (x, b)) (e2 : σ[i]? = some (some (.own a ds))) : EvL C σ (.Name x p) ds := .mk fun A s Q hA O hQ => by
  obtain ⟨m, hn, hv⟩ := O.vars
  obtain ⟨v, hh, rfl, vs, pl, hd⟩ := hv i x b _ e1 e2
  have hm := List.mem_of_getElem? e1
  have fin : Q (.ref a) s := hQ _ s (Ext.refl _ _) O ⟨a, vs, rfl, pl.isList, hd⟩
  refine wpAny_Name ?_ (hF.dbgL _ hm)
  cases b with
  | false => exact wpAny_loadName_local hF.kind (hF.names _ hm) hn hh fin
  | true =>
    obtain ⟨c, hc⟩ := hF.cells _ hm rfl
    refine wpAny_loadName_cell hF.kind (hF.names _ hm) hc (v := .ref a) ?_ fin
    have : C.F.cell x = c := by unfold Fm.cell; rw [hc]; rfl
    rw [← this]; exact hh
theorem EvL.ro {C : Cx} {σ : Sig} (hF : FmOk C.F) {i : Nat} {x : Str} {b : Bool} {p : Pos} {a : Addr} {ds : List D} (e1 : C.F.lay[i]? = some (x, b)) (e2 : σ[i]? = some (some (.ro a ds))) : EvL C σ (.Name x p) ds := .mk fun A s Q hA O hQ => by
  obtain ⟨m, hn, hv⟩ := O.vars
  obtain ⟨v, hh, rfl, vs, pl, hd⟩ := hv i x b _ e1 e2
  have hm := List.mem_of_getElem? e1
  have fin : Q (.ref a) s := hQ _ s (Ext.refl _ _) O ⟨a, vs, rfl, pl, hd⟩
  refine wpAny_Name ?_ (hF.dbgL _ hm)
  cases b with
  | false => exact wpAny_loadName_local hF.kind (hF.names _ hm) hn hh fin
  | true =>
    obtain ⟨c, hc⟩ := hF.cells _ hm rfl
    refine wpAny_loadName_cell hF.kind (hF.names _ hm) hc (v := .ref a) ?_ fin
    have : C.F.cell x = c := by unfold Fm.cell; rw [hc]; rfl
    rw [← this]; exact hh
structure EvV (C : Cx) (σ : Sig) (e : Expr) (v : Value) : Prop where
  run : Run C σ (eval e C.env) fun _ v' _ => v' = v
theorem EvV.glob {C : Cx} {σ : Sig} (hX : WOk C.X) (hF : FmOk C.F) {x : Str} {p : Pos} {v : Value} (e1 : x ∈ C.F.glob) (e2 : C.X.mg x = some v) : EvV C σ (.Name x p) v := .mk fun A s Q hA O hQ =>
  Name_function_global hF.kind (hF.globs _ e1) (loadGlobal_global (by rw [hF.glo]; exact hX.g.keeps O.bs.le) e2 (hQ v s (Ext.refl _ _) O rfl)) (hF.dbgG _ e1)
theorem EvV.built {C : Cx} {σ : Sig} (hX : WOk C.X) (hF : FmOk C.F) {x : Str} {p : Pos} {v : Value} (e1 : x ∈ C.F.glob) (e2 : C.X.mg x = none) (e3 : C.X.mb x = some v) : EvV C σ (.Name x p) v := .mk fun A s Q hA O hQ =>
  Name_function_global hF.kind (hF.globs _ e1) (loadGlobal_builtin (by rw [hF.glo]; exact hX.g.keeps O.bs.le) e2 (by rw [hF.bui]; exact hX.b.keeps O.bs.le) e3 (hQ v s (Ext.refl _ _) O rfl)) (hF.dbgG _ e1)
end
end Mine
namespace Mine
open MineP

inductive DF where
  | next | brk | cont
  | ret (d : D)
noncomputable def FlOk (W : List Addr) (h : Heap) : Flow → DF → Prop
  | .next, .next => True
  | .brk, .brk => True
  | .cont, .cont => True
  | .ret v, .ret d => Den W h v d
  | _, _ => False

noncomputable abbrev Cx.Wr (C : Cx) (σ : Sig) : List Addr := Mine.Wr C.X C.F σ
/-- the frame's own set has grown by new addresses alone -/
noncomputable def Sub (C : Cx) (σ σ' : Sig) (s : Shared) : Prop := ∀ a, a ∈ C.Wr σ' → a ∈ C.Wr σ ∨ s.heap.get? a = none
structure WS (C : Cx) (σ : Sig) (t : Sem Flow) (P : DF → Sig → Prop) : Prop where
  run : ∀ (A : Around) (s : Shared) (Q : Flow → Shared → Prop), AOk C.n A → C.Ok σ s →
    (∀ fl df σ' s', P df σ' → C.Ok σ' s' → Ext (C.Wr σ) s s' → Sub C σ σ' s → FlOk C.Wo s'.heap fl df → Q fl s') → wpAny C.X.M A t Q NE s
section
variable {C : Cx} {σ : Sig} {s s' s'' : Shared} {P : DF → Sig → Prop}
theorem Sub.refl : Sub C σ σ s := fun _ m => .inl m
theorem Sub.trans {σ' σ'' : Sig} {W : List Addr} (h : Sub C σ σ' s) (x : Ext W s s') (k : Sub C σ' σ'' s') : Sub C σ σ'' s := fun a m => (k a m).elim (h a) fun e => .inr (x.none e)
theorem Sub.of_eq {σ' : Sig} (h : ∀ a, a ∈ ownAs σ' → a ∈ ownAs σ) : Sub C σ σ' s := fun a m => .inl <| by
  rcases List.mem_cons.mp m with rfl | m
  · exact .head _
  rcases List.mem_cons.mp m with rfl | m
  · exact .tail _ (.head _)
  rcases List.mem_append.mp m with m | m
  · exact .tail _ (.tail _ (List.mem_append_left _ m))
  · exact .tail _ (.tail _ (List.mem_append_right _ (h a m)))
theorem Ext.ofT (x : Ext [C.X.T] s s') : Ext (C.Wr σ) s s' := x.sub fun a m => by rw [List.mem_singleton.mp m]; exact .head _
theorem WS.mono {t : Sem Flow} {P' : DF → Sig → Prop} (h : WS C σ t P) (k : ∀ df σ', P df σ' → P' df σ') : WS C σ t P' := .mk fun A s Q hA O hQ => h.run A s Q hA O fun fl df σ' s' p => hQ fl df σ' s' (k _ _ p)

theorem WS.nil (h : P .next σ) : WS C σ (execs [] C.env) P := .mk fun A s Q hA O hQ => wpAny_execs_nil (hQ .next .next σ s h O (Ext.refl _ _) .refl trivial)
noncomputable def Then (C : Cx) (rest : List Stmt) (P : DF → Sig → Prop) (df : DF) (σ' : Sig) : Prop := match df with
  | .next => WS C σ' (execs rest C.env) P
  | df => P df σ'
theorem WS.cons {st : Stmt} {rest : List Stmt} (h : WS C σ (exec st C.env) (Then C rest P)) : WS C σ (execs (st :: rest) C.env) P := .mk fun A s Q hA O hQ =>
  wpAny_execs_cons (h.run A s _ hA O fun fl df σ' s' p O' x b f => by
    cases df with
    | next =>
      cases fl <;> first | exact f.elim | skip
      exact WS.run p A s' _ hA O' fun fl df σ'' s'' p' O'' x' b' f' => hQ fl df σ'' s'' p' O'' (x.trans x' b) (b.trans x b') f'
    | brk => cases fl <;> first | exact f.elim | exact hQ _ _ σ' s' p O' x b trivial
    | cont => cases fl <;> first | exact f.elim | exact hQ _ _ σ' s' p O' x b trivial
    | ret d => cases fl <;> first | exact f.elim | exact hQ _ _ σ' s' p O' x b f)
theorem WS.ret {e : Expr} {p : Pos} {d : D} (h : EvE C σ e d) (k : P (.ret d) σ) : WS C σ (exec (.Return (some e) p) C.env) P := .mk fun A s Q hA O hQ =>
  wpAny_Return_some (h.run A s _ hA O fun v s' x O' r => hQ _ _ σ s' k O' x.ofT .refl (r.sub fun _ m => List.mem_append_left _ m))
theorem WS.brk {p : Pos} (k : P .brk σ) : WS C σ (exec (.Break p) C.env) P := .mk fun A s Q hA O hQ => wpAny_Break (hQ _ _ σ s k O (Ext.refl _ _) .refl trivial)
theorem WS.if_ {t : Expr} {body orelse : List Stmt} {p : Pos} {c : Bool} (h : EvT C σ t c) (k1 : c = true → WS C σ (execs body C.env) P) (k2 : c = false → WS C σ (execs orelse C.env) P) : WS C σ (exec (.If t body orelse p) C.env) P := .mk fun A s Q hA O hQ =>
  wpAny_If (h.run A s _ hA O fun b s1 x1 O1 e => by
    subst e
    cases b with
    | true => exact (k1 rfl).run A s1 Q hA O1 fun fl df σ' s' p O' x b f => hQ fl df σ' s' p O' ((x1.ofT).trans' x) (Sub.trans .refl x1 b) f
    | false => exact (k2 rfl).run A s1 Q hA O1 fun fl df σ' s' p O' x b f => hQ fl df σ' s' p O' ((x1.ofT).trans' x) (Sub.trans .refl x1 b) f)
theorem WS.if_t {t : Expr} {body orelse : List Stmt} {p : Pos} (h : EvT C σ t true) (k : WS C σ (execs body C.env) P) : WS C σ (exec (.If t body orelse p) C.env) P := WS.if_ h (fun _ => k) fun e => nomatch e
theorem WS.if_f {t : Expr} {body orelse : List Stmt} {p : Pos} (h : EvT C σ t false) (k : WS C σ (execs orelse C.env) P) : WS C σ (exec (.If t body orelse p) C.env) P := WS.if_ h (fun e => nomatch e) fun _ => k
theorem WS.assert {t : Expr} {msg : Option Expr} {p : Pos} (h : EvT C σ t true) (k : P .next σ) : WS C σ (exec (.Assert t msg p) C.env) P := .mk fun A s Q hA O hQ =>
  wpAny_Assert_holds (h.run A s _ hA O fun b s1 x1 O1 e => ⟨e, hQ _ _ σ s1 k O1 x1.ofT .refl trivial⟩)

-- stores
theorem lay_ne {F : Fm} (hF : FmOk F) {i j : Nat} {x y : Str} {b c : Bool} (e1 : F.lay[i]? = some (x, b)) (e2 : F.lay[j]? = some (y, c)) (h : i ≠ j) : x ≠ y := by
  intro q
  subst q
  have n := hF.nodup
  obtain ⟨h1, k1⟩ := List.getElem?_eq_some_iff.mp e1
  obtain ⟨h2, k2⟩ := List.getElem?_eq_some_iff.mp e2
  have z := List.pairwise_iff_getElem.mp n
  rcases Nat.lt_or_gt_of_ne h with q | q
  · exact z i j (by simpa using h1) (by simpa using h2) q (by simp [k1, k2])
  · exact z j i (by simpa using h2) (by simpa using h1) q (by simp [k1, k2])

noncomputable def tgtA (F : Fm) (x : Str) (b : Bool) : Addr := match b with
  | true => F.cell x
  | false => F.env.locals
theorem store_raw {X : Wd} {F : Fm} {Wo : List Addr} {A : Around} {σ' : Sig} {x : Str} {b : Bool} {v : Value} {i : Nat} {sl : Slot} {Q : Unit → Shared → Prop} (hF : FmOk F)
    (e1 : F.lay[i]? = some (x, b)) (O : Ok X F Wo σ s) (eσ : σ' = σ.set i (some sl)) (V : VarsOk F (Wo ++ Wr X F σ') σ s) (hv : SDen (Wo ++ Wr X F σ') s.heap v sl)
    (fr : ∀ a ∈ ownAs σ', X.hb.get? a = none ∧ a ∉ Wo) (nd : (ownAs σ').Nodup) (hL : ∀ (j : Nat) a ds, σ'[j]? = some (some (.own a ds)) → ∃ its, s.heap.PlainList a its)
    (h : ∀ s', Ok X F Wo σ' s' → Ext [tgtA F x b] s s' → Q () s') : wpAny X.M A (storeName F.env x v) Q NE s := by
  have hm := List.mem_of_getElem? e1
  have inL : ∀ a, a ∈ F.env.locals :: F.cellAs → a ∈ Wo ++ Wr X F σ' := fun a m => by
    refine List.mem_append_right _ (.tail _ ?_)
    rcases List.mem_cons.mp m with rfl | m
    · exact .head _
    · exact .tail _ (List.mem_append_left _ m)
  have frAll : ∀ a ∈ Wo ++ Wr X F σ', X.hb.get? a = none := fun a m => by
    rcases List.mem_append.mp m with m | m
    · exact O.fresh a (List.mem_append_left _ m)
    rcases List.mem_cons.mp m with rfl | m
    · exact O.fresh _ mem_T
    rcases List.mem_cons.mp m with rfl | m
    · exact O.fresh _ mem_L
    rcases List.mem_append.mp m with m | m
    · exact O.fresh a (List.mem_append_right _ (.tail _ (.tail _ (List.mem_append_left _ m))))
    · exact (fr a m).1
  obtain ⟨m, hn, hvs⟩ := V
  -- what the write leaves
  have fin : ∀ (c : Addr) (h' : Heap) (tk : Nat) (m' : Str → Option Value), c ∈ F.env.locals :: F.cellAs → c = tgtA F x b → Heap.SameBut c s.heap h' → (∃ o, h'.get? c = some o) →
      (∀ c' its, s.heap.IsList c' its → c' ≠ c) → X.T ≠ c → h'.Ns F.env.locals m' →
      (∀ (j : Nat) y d sl', F.lay[j]? = some (y, d) → σ'[j]? = some (some sl') → ∃ v', Holds F h' m' y d v' ∧ SDen (Wo ++ Wr X F σ') s.heap v' sl') → (∀ y, (y, true) ∈ F.lay → ∃ v', h'.IsCell (F.cell y) v') →
      Q () { s with heap := h', toks := tk } := by
    intro c h' tk m' hc hct hs ho hpl hT hns hall hcells
    have k : ∀ a o, a ∉ [c] → s.heap.get? a = some o → h'.get? a = some o := fun a o n e => hs.extBut a o (fun q => n (List.mem_singleton.mpr q)) e
    have kW : ∀ a o, a ∉ Wo ++ Wr X F σ' → s.heap.get? a = some o → h'.get? a = some o := fun a o n e => k a o (fun q => n (by rw [List.mem_singleton.mp q]; exact inL c hc)) e
    have ex : Ext [tgtA F x b] s { s with heap := h', toks := tk } := ⟨fun a o n e => hs.extBut a o (fun q => n (List.mem_singleton.mpr (q.trans hct))) e, fun a o e => by
      by_cases q : a = c
      · subst q; exact ho
      · exact ⟨o, hs.extBut a o q e⟩, rfl⟩
    refine h _ ⟨⟨fun a o e => kW a o (fun m => by have := frAll a m; rw [e] at this; cases this) (O.bs.le a o e), ?_, O.bs.bare⟩, ⟨m', hns, fun j y d sl' h1 h2 => ?_⟩, hcells, fun j a ds e => ?_, frAll, fun a ha => ?_, nd, fun a m => (fr a m).2⟩ ex
    · obtain ⟨ps, e, r⟩ := O.bs.tab
      exact ⟨ps, hs.extBut _ _ hT e, r⟩
    · obtain ⟨v', hh, hd⟩ := hall j y d sl' h1 h2
      refine ⟨v', hh, ?_⟩
      cases sl' with
      | val d => exact hd.ext kW fun _ m => .inl m
      | own a ds => obtain ⟨e, vs, p, r⟩ := hd; exact ⟨e, vs, let ⟨n, e⟩ := p; ⟨n, hs.extBut _ _ (hpl _ _ ⟨_, e, rfl, n, rfl⟩) e⟩, r.ext kW fun _ m => .inl m⟩
      | app a => obtain ⟨q, e, n, g⟩ := hd; exact ⟨q, e, n, kW _ _ n g⟩
      | ro a ds => obtain ⟨e, vs, l, r⟩ := hd; exact ⟨e, vs, l.extBut hs.extBut (hpl _ _ l), r.ext kW fun _ m => .inl m⟩
    · obtain ⟨its, p⟩ := hL j a ds e
      exact ⟨its, let ⟨n, e⟩ := p; ⟨n, hs.extBut _ _ (hpl _ _ ⟨_, e, rfl, n, rfl⟩) e⟩⟩
    · obtain ⟨o, e⟩ := O.there a ha; exact ex.dom a o e
  obtain ⟨psT, eT, _⟩ := O.bs.tab
  have set_get : ∀ (j : Nat) (sl' : Slot), σ'[j]? = some (some sl') → (j = i ∧ sl' = sl) ∨ (j ≠ i ∧ σ[j]? = some (some sl')) := fun j sl' e => by
    subst eσ
    rw [List.getElem?_set] at e
    split at e
    · rename_i q; subst q
      split at e
      · left; cases e; exact ⟨rfl, rfl⟩
      · cases e
    · rename_i q; right; exact ⟨fun z => q z.symm, e⟩
  cases b with
  | false =>
    obtain ⟨oL, esL, epL, eL, dL, rL⟩ := id hn
    refine wpAny_storeName_local (hF.names _ hm) hn (fun h' hn' hs => fin F.env.locals h' (s.toks + 1) _ (.head _) rfl hs (let ⟨o, _, _, e, _⟩ := hn'; ⟨o, e⟩) (fun c' its p q => ?_) (fun q => ?_) hn' (fun j y d sl' h1 h2 => ?_) fun y hy => ?_)
      (by rw [hF.kind]; rfl)
    · subst q; obtain ⟨o, e, _, n, d⟩ := p; rw [eL] at e; cases e; rw [d] at dL; cases dL
    · rw [q, eL] at eT; cases eT; cases dL
    · rcases set_get j sl' h2 with ⟨rfl, rfl⟩ | ⟨hj, h2⟩
      · rw [e1] at h1; cases h1
        exact ⟨v, by show (if x = x then some v else m x) = some v; rw [if_pos rfl], hv⟩
      · obtain ⟨v', hh, hd⟩ := hvs j y d sl' h1 h2
        refine ⟨v', ?_, hd⟩
        have hne := lay_ne hF h1 e1 hj
        cases d with
        | false => show (if y = x then some v else m y) = some v'; rw [if_neg hne]; exact hh
        | true =>
          obtain ⟨o, e, dd⟩ := hh
          refine ⟨o, hs.extBut _ _ (fun q => ?_) e, dd⟩
          rw [q, eL] at e; cases e; rw [dL] at dd; cases dd
    · obtain ⟨v', o, e, dd⟩ := O.cells y hy
      refine ⟨v', o, hs.extBut _ _ (fun q => ?_) e, dd⟩
      rw [q, eL] at e; cases e; rw [dL] at dd; cases dd
  | true =>
    obtain ⟨c, hc⟩ := hF.cells _ hm rfl
    have ec : F.cell x = c := by unfold Fm.cell; rw [hc]; rfl
    obtain ⟨v₀, hcell⟩ := O.cells x hm
    rw [ec] at hcell
    obtain ⟨oc, ecc, dc⟩ := id hcell
    obtain ⟨oL, esL, epL, eL, dL, rL⟩ := id hn
    have hLc : F.env.locals ≠ c := fun q => by rw [q, ecc] at eL; cases eL; rw [dc] at dL; cases dL
    refine wpAny_storeName_cell hF.kind (hF.names _ hm) hc hcell fun h' hc' hs => fin c h' s.toks m (.tail _ (ec ▸ mem_cell hm)) ec.symm hs (let ⟨o, e, _⟩ := hc'; ⟨o, e⟩) (fun c' its p q => ?_) (fun q => ?_) (hn.sameBut hs hLc) (fun j y d sl' h1 h2 => ?_) fun y hy => ?_
    · subst q; obtain ⟨o, e, _, n, d⟩ := p; rw [ecc] at e; cases e; rw [d] at dc; cases dc
    · rw [q, ecc] at eT; cases eT; cases dc
    · rcases set_get j sl' h2 with ⟨rfl, rfl⟩ | ⟨hj, h2⟩
      · rw [e1] at h1; cases h1
        exact ⟨v, by show h'.IsCell (F.cell x) (some v); rw [ec]; exact hc', hv⟩
      · obtain ⟨v', hh, hd⟩ := hvs j y d sl' h1 h2
        refine ⟨v', ?_, hd⟩
        have hne := lay_ne hF h1 e1 hj
        cases d with
        | false => exact hh
        | true =>
          have : F.cell y ≠ c := fun q => hne (hF.cellInj y x (List.mem_of_getElem? h1) hm (q.trans ec.symm))
          exact Heap.IsCell.sameBut hh hs this
    · by_cases q : y = x
      · subst q; exact ⟨_, by rw [ec]; exact hc'⟩
      · obtain ⟨v', hh⟩ := O.cells y hy
        exact ⟨v', hh.sameBut hs fun z => q (hF.cellInj y x hy hm (z.trans ec.symm))⟩
end
end Mine
namespace Mine
open MineP
theorem ownAs_set : ∀ (σ : Sig) (i : Nat) (sl : Slot), Slot.ownA (some sl) = none → (ownAs (σ.set i (some sl))).Sublist (ownAs σ)
  | [], _, _, _ => by simp [ownAs]
  | x :: σ, 0, sl, h => by
    show (List.filterMap Slot.ownA (some sl :: σ)).Sublist (List.filterMap Slot.ownA (x :: σ))
    rw [List.filterMap_cons_none h]
    cases e : Slot.ownA x with
    | none => rw [List.filterMap_cons_none e]; exact List.Sublist.refl _
    | some a => rw [List.filterMap_cons_some e]; exact List.sublist_cons_self ..
  | x :: σ, i + 1, sl, h => by
    have ih := ownAs_set σ i sl h
    show (List.filterMap Slot.ownA (x :: σ.set i (some sl))).Sublist (List.filterMap Slot.ownA (x :: σ))
    cases e : Slot.ownA x with
    | none => rw [List.filterMap_cons_none e, List.filterMap_cons_none e]; exact ih
    | some a => rw [List.filterMap_cons_some e, List.filterMap_cons_some e]; exact ih.cons_cons a
theorem ownAs_set_mem : ∀ (σ : Sig) (i : Nat) (a : Addr) (ds : List D) (b : Addr), b ∈ ownAs (σ.set i (some (.own a ds))) → b = a ∨ b ∈ ownAs σ
  | [], _, _, _, _, m => by simp [ownAs] at m
  | x :: σ, 0, a, ds, b, m => by
    have e : ownAs ((x :: σ).set 0 (some (.own a ds))) = a :: ownAs σ := List.filterMap_cons_some rfl
    rw [e] at m
    rcases List.mem_cons.mp m with q | q
    · exact .inl q
    · right
      show b ∈ List.filterMap Slot.ownA (x :: σ)
      cases e : Slot.ownA x with
      | none => rw [List.filterMap_cons_none e]; exact q
      | some c => rw [List.filterMap_cons_some e]; exact .tail _ q
  | x :: σ, i + 1, a, ds, b, m => by
    have ih := ownAs_set_mem σ i a ds b
    have m' : b ∈ List.filterMap Slot.ownA (x :: σ.set i (some (.own a ds))) := m
    show b = a ∨ b ∈ List.filterMap Slot.ownA (x :: σ)
    cases e : Slot.ownA x with
    | none => rw [List.filterMap_cons_none e] at m' ⊢; exact ih m'
    | some c =>
      rw [List.filterMap_cons_some e] at m' ⊢
      rcases List.mem_cons.mp m' with q | q
      · exact .inr (q ▸ .head _)
      · exact (ih q).imp id (.tail _)
theorem ownAs_set_nodup : ∀ (σ : Sig) (i : Nat) (a : Addr) (ds : List D), (ownAs σ).Nodup → a ∉ ownAs σ → (ownAs (σ.set i (some (.own a ds)))).Nodup
  | [], _, _, _, h, _ => by simp [ownAs]
  | x :: σ, 0, a, ds, h, n => by
    have e : ownAs ((x :: σ).set 0 (some (.own a ds))) = a :: ownAs σ := List.filterMap_cons_some rfl
    rw [e]
    have h' : (List.filterMap Slot.ownA (x :: σ)).Nodup := h
    have n' : a ∉ List.filterMap Slot.ownA (x :: σ) := n
    cases e : Slot.ownA x with
    | none => rw [List.filterMap_cons_none e] at h' n'; exact List.nodup_cons.mpr ⟨n', h'⟩
    | some c => rw [List.filterMap_cons_some e] at h' n'; exact List.nodup_cons.mpr ⟨fun q => n' (.tail _ q), (List.nodup_cons.mp h').2⟩
  | x :: σ, i + 1, a, ds, h, n => by
    have h' : (List.filterMap Slot.ownA (x :: σ)).Nodup := h
    have n' : a ∉ List.filterMap Slot.ownA (x :: σ) := n
    show (List.filterMap Slot.ownA (x :: σ.set i (some (.own a ds)))).Nodup
    cases e : Slot.ownA x with
    | none => rw [List.filterMap_cons_none e] at h' n' ⊢; exact ownAs_set_nodup σ i a ds h' n'
    | some c =>
      rw [List.filterMap_cons_some e] at h' n' ⊢
      obtain ⟨h1, h2⟩ := List.nodup_cons.mp h'
      refine List.nodup_cons.mpr ⟨fun q => ?_, ownAs_set_nodup σ i a ds h2 fun q => n' (.tail _ q)⟩
      rcases ownAs_set_mem σ i a ds c q with q | q
      · exact n' (q ▸ .head _)
      · exact h1 q
/-- the same list, other items: the frame's own addresses stay -/
theorem ownAs_same : ∀ (σ : Sig) (i : Nat) (a : Addr) (ds es : List D), σ[i]? = some (some (.own a ds)) → ownAs (σ.set i (some (.own a es))) = ownAs σ
  | [], _, _, _, _, e => by cases e
  | x :: σ, 0, a, ds, es, e => by
    cases e
    show List.filterMap Slot.ownA (some (.own a es) :: σ) = List.filterMap Slot.ownA (some (.own a ds) :: σ)
    rw [List.filterMap_cons_some (show Slot.ownA (some (.own a es)) = some a from rfl), List.filterMap_cons_some (show Slot.ownA (some (.own a ds)) = some a from rfl)]
  | x :: σ, i + 1, a, ds, es, e => by
    have ih := ownAs_same σ i a ds es (by simpa using e)
    show List.filterMap Slot.ownA (x :: σ.set i (some (.own a es))) = List.filterMap Slot.ownA (x :: σ)
    cases q : Slot.ownA x with
    | none => rw [List.filterMap_cons_none q, List.filterMap_cons_none q]; exact ih
    | some c => rw [List.filterMap_cons_some q, List.filterMap_cons_some q]; exact congrArg (c :: ·) ih

section
variable {C : Cx} {σ : Sig} {s s' s'' : Shared} {P : DF → Sig → Prop}
theorem Wr_sub {σ' : Sig} (h : ∀ a, a ∈ ownAs σ' → a ∈ ownAs σ) : ∀ a, a ∈ C.Wr σ' → a ∈ C.Wr σ := fun a m => by
  rcases List.mem_cons.mp m with rfl | m
  · exact .head _
  rcases List.mem_cons.mp m with rfl | m
  · exact .tail _ (.head _)
  rcases List.mem_append.mp m with m | m
  · exact .tail _ (.tail _ (List.mem_append_left _ m))
  · exact .tail _ (.tail _ (List.mem_append_right _ (h a m)))
theorem W_sub {σ' : Sig} (h : ∀ a, a ∈ ownAs σ' → a ∈ ownAs σ) : ∀ a, a ∈ C.W σ' → a ∈ C.W σ := fun a m => by
  rcases List.mem_append.mp m with m | m
  · exact List.mem_append_left _ m
  · exact List.mem_append_right _ (Wr_sub h a m)
theorem Ext.ofLC (x : Ext (C.F.env.locals :: C.F.cellAs) s s') : Ext (C.Wr σ) s s' := x.sub fun a m => .tail _ <| by
  rcases List.mem_cons.mp m with rfl | m
  · exact .head _
  · exact .tail _ (List.mem_append_left _ m)
theorem tgt_in {F : Fm} {x : Str} {b : Bool} (h : (x, b) ∈ F.lay) : ∀ a, a ∈ [tgtA F x b] → a ∈ F.env.locals :: F.cellAs := fun a m => by
  rw [List.mem_singleton.mp m]
  cases b with
  | false => exact .head _
  | true => exact .tail _ (mem_cell h)
/-- a value stored under a name -/
theorem store_valP (hF : FmOk C.F) {A : Around} {i : Nat} {x : Str} {b : Bool} {v : Value} {sl : Slot} {Q : Unit → Shared → Prop} (e1 : C.F.lay[i]? = some (x, b)) (ho : Slot.ownA (some sl) = none) (O : C.Ok σ s) (hv : SDen (C.W σ) s.heap v sl)
    (h : ∀ s', C.Ok (σ.set i (some sl)) s' → Ext [tgtA C.F x b] s s' → Q () s') : wpAny C.X.M A (storeName C.env x v) Q NE s := by
  have sb := (ownAs_set σ i sl ho).subset
  have sw : ∀ a, a ∈ C.W (σ.set i (some sl)) → a ∈ C.W σ := W_sub sb
  refine store_raw hF e1 O rfl (O.vars.ext (fun _ _ e _ => e) fun a m => .inl (sw a m)) (sden_up (fun _ _ e _ => e) (fun a m => .inl (sw a m)) hv)
    (fun a m => ⟨O.fresh a (List.mem_append_right _ (.tail _ (.tail _ (List.mem_append_right _ (sb m))))), O.ownOut a (sb m)⟩) ((ownAs_set σ i sl ho).nodup O.owns) (fun j a ds e => ?_) h
  obtain ⟨k, es, e'⟩ := own_mem (sb (mem_own e))
  exact O.lists k a es e'
theorem store_val (hF : FmOk C.F) {A : Around} {i : Nat} {x : Str} {b : Bool} {v : Value} {sl : Slot} {Q : Unit → Shared → Prop} (e1 : C.F.lay[i]? = some (x, b)) (ho : Slot.ownA (some sl) = none) (O : C.Ok σ s) (hv : SDen (C.W σ) s.heap v sl)
    (h : ∀ s', C.Ok (σ.set i (some sl)) s' → Ext (C.F.env.locals :: C.F.cellAs) s s' → Q () s') : wpAny C.X.M A (storeName C.env x v) Q NE s :=
  store_valP hF e1 ho O hv fun s' O' x => h s' O' (x.sub (tgt_in (List.mem_of_getElem? e1)))
/-- a new list stored under a name -/
theorem store_own (hF : FmOk C.F) {A : Around} {i : Nat} {x : Str} {b : Bool} {a : Addr} {vs : List Value} {ds : List D} {Q : Unit → Shared → Prop} (e1 : C.F.lay[i]? = some (x, b)) (O₀ : C.Ok σ s) (ex : Ext [C.X.T] s s') (O : C.Ok σ s')
    (hn : s.heap.get? a = none) (hp : s'.heap.PlainList a vs.toArray) (hd : Dens (a :: C.W σ) s'.heap vs ds)
    (h : ∀ s'', C.Ok (σ.set i (some (.own a ds))) s'' → Ext (C.F.env.locals :: C.F.cellAs) s' s'' → Q () s'') : wpAny C.X.M A (storeName C.env x (.ref a)) Q NE s' := by
  have sw : ∀ c, c ∈ C.W (σ.set i (some (.own a ds))) → c ∈ a :: C.W σ := fun c m => by
    rcases List.mem_append.mp m with m | m
    · exact .tail _ (List.mem_append_left _ m)
    rcases List.mem_cons.mp m with rfl | m
    · exact .tail _ mem_T
    rcases List.mem_cons.mp m with rfl | m
    · exact .tail _ mem_L
    rcases List.mem_append.mp m with m | m
    · exact .tail _ (List.mem_append_right _ (.tail _ (.tail _ (List.mem_append_left _ m))))
    · rcases ownAs_set_mem σ i a ds c m with rfl | m
      · exact .head _
      · exact .tail _ (List.mem_append_right _ (.tail _ (.tail _ (List.mem_append_right _ m))))
  have na : a ∉ C.W σ := O₀.off hn
  refine store_raw hF (sl := .own a ds) e1 O rfl (O₀.vars.ext (ex.inert O₀.bs.inertT) fun c m => ?_) ⟨rfl, vs, hp, hd.sub sw⟩ (fun c m => ?_) (ownAs_set_nodup σ i a ds O.owns fun m => na (List.mem_append_right _ (.tail _ (.tail _ (List.mem_append_right _ m))))) (fun j c es e => ?_) fun s'' O'' x => h s'' O'' (x.sub (tgt_in (List.mem_of_getElem? e1)))
  · rcases List.mem_cons.mp (sw c m) with rfl | m
    · exact .inr hn
    · exact .inl m
  · rcases ownAs_set_mem σ i a ds c m with rfl | m
    · refine ⟨?_, fun m => na (List.mem_append_left _ m)⟩
      cases q : C.X.hb.get? c with
      | none => rfl
      | some o => have := O₀.bs.le c o q; rw [hn] at this; cases this
    · refine ⟨?_, O.ownOut c m⟩
      exact O.fresh c (List.mem_append_right _ (.tail _ (.tail _ (List.mem_append_right _ m))))
  · rcases ownAs_set_mem σ i a ds c (mem_own e) with rfl | m
    · exact ⟨_, hp⟩
    · obtain ⟨k, es', e'⟩ := own_mem m
      exact O.lists k c es' e'

theorem WS.assign (hF : FmOk C.F) {i : Nat} {x : Str} {b : Bool} {px p : Pos} {e : Expr} {d : D} (e1 : C.F.lay[i]? = some (x, b)) (he : EvE C σ e d) (k : P .next (σ.set i (some (.val d))))
    (hsw : swapsWith e (some (.Name x px)) p.line C.env = pure false := by rfl) : WS C σ (exec (.Assign [.Name x px] e p) C.env) P := .mk fun A s Q hA O hQ =>
  wpAny_Assign_Name (he.run A s _ hA O fun v s1 x1 O1 d1 => store_val hF (sl := .val d) e1 rfl O1 d1 fun s2 O2 x2 => hQ _ _ _ s2 k O2 ((x1.ofT).trans' x2.ofLC) (Sub.of_eq (ownAs_set σ i _ rfl).subset) trivial) hsw
theorem WS.assign_own (hF : FmOk C.F) {i : Nat} {x : Str} {b : Bool} {px p : Pos} {e : Expr} {ds : List D} (e1 : C.F.lay[i]? = some (x, b)) (he : EvN C σ e ds) (k : ∀ a, P .next (σ.set i (some (.own a ds))))
    (hsw : swapsWith e (some (.Name x px)) p.line C.env = pure false := by rfl) : WS C σ (exec (.Assign [.Name x px] e p) C.env) P := .mk fun A s Q hA O hQ =>
  wpAny_Assign_Name (he.run A s _ hA O fun v s1 x1 O1 ⟨a, vs, ev, hn, hp, hd⟩ => by
    subst ev
    refine store_own hF e1 O x1 O1 hn hp hd fun s2 O2 x2 => hQ _ _ _ s2 (k a) O2 ((x1.ofT).trans' x2.ofLC) (fun c m => ?_) trivial
    rcases List.mem_cons.mp m with rfl | m
    · exact .inl (.head _)
    rcases List.mem_cons.mp m with rfl | m
    · exact .inl (.tail _ (.head _))
    rcases List.mem_append.mp m with m | m
    · exact .inl (.tail _ (.tail _ (List.mem_append_left _ m)))
    · rcases ownAs_set_mem σ i a ds c m with rfl | m
      · exact .inr hn
      · exact .inl (.tail _ (.tail _ (List.mem_append_right _ m)))) hsw
/-- x op= e -/
theorem WS.aug (hF : FmOk C.F) {i : Nat} {x : Str} {b : Bool} {px p : Pos} {op : Operator} {e : Expr} {d₀ d₁ d : D} (e1 : C.F.lay[i]? = some (x, b)) (e2 : σ[i]? = some (some (.val d₀))) (he : EvE C σ e d₁) (ho : OpB C σ (inplaceOp op) d₀ d₁ d) (k : P .next (σ.set i (some (.val d)))) :
    WS C σ (exec (.AugAssign (.Name x px) op e p) C.env) P := .mk fun A s Q hA O hQ => by
  obtain ⟨m, hn, hv⟩ := O.vars
  obtain ⟨v, hh, hd⟩ := hv i x b _ e1 e2
  have hm := List.mem_of_getElem? e1
  have fin : wpAny C.X.M A (eval e C.env) (fun v' s₂ => wpAny C.X.M A (inplaceOp op v v') (fun r s₃ => wpAny C.X.M A (storeName C.env x r) (fun _ => Q .next) NE s₃) NE s₂) NE s :=
    he.run A s _ hA O fun v' s1 x1 O1 d1 => ho A s1 _ v v' hA O1 (Den.up hd x1) d1 fun r s2 x2 O2 d2 => store_val hF (sl := .val d) e1 rfl O2 d2 fun s3 O3 x3 =>
      hQ _ _ _ s3 k O3 (((x1.trans' x2).ofT).trans' x3.ofLC) (Sub.of_eq (ownAs_set σ i _ rfl).subset) trivial
  refine wpAny_AugAssign_Name ?_
  cases b with
  | false => exact wpAny_loadName_local hF.kind (hF.names _ hm) hn hh fin
  | true =>
    obtain ⟨c, hc⟩ := hF.cells _ hm rfl
    refine wpAny_loadName_cell hF.kind (hF.names _ hm) hc (v := v) ?_ fin
    have : C.F.cell x = c := by unfold Fm.cell; rw [hc]; rfl
    rw [← this]; exact hh
theorem OpB.iadd_int {a b : Int} : OpB C σ (inplaceOp .Add) (.int a) (.int b) (.int (a + b)) := .of_int fun A s Q va vb _ _ da db hQ => by cases da; cases db; exact P.iadd_int (hQ _ _ (.int _ _))
theorem OpB.iadd_str {x y : Str} (h : x.length + y.length ≤ sizeLine) : OpB C σ (inplaceOp .Add) (.str x) (.str y) (.str (x ++ y)) := .of_int fun A s Q va vb _ _ da db hQ => by
  cases da; cases db; exact PyProof.Rows.iadd_str (fun t tk => hQ _ _ (.str _ _)) h
/-- an own list that is written no more is a value -/
theorem WS.freeze {t : Sem Flow} {i : Nat} {a : Addr} {ds : List D} (e : σ[i]? = some (some (.own a ds))) (h : WS C (σ.set i (some (.val (.list ds)))) t P) : WS C σ t P := .mk fun A s Q hA O hQ => by
  have sub : ∀ c, c ∈ ownAs (σ.set i (some (.val (.list ds)))) → c ∈ ownAs σ := (ownAs_set σ i (.val (.list ds)) rfl).subset
  have na : ∀ (σ : Sig) (i : Nat), σ[i]? = some (some (.own a ds)) → (ownAs σ).Nodup → a ∉ ownAs (σ.set i (some (.val (.list ds)))) := by
    intro σ
    induction σ with
    | nil => intro i e; cases e
    | cons x σ ih =>
      intro i e nd
      cases i with
      | zero =>
        cases e
        have : ownAs (some (.own a ds) :: σ) = a :: ownAs σ := List.filterMap_cons_some rfl
        rw [this] at nd
        show a ∉ List.filterMap Slot.ownA (some (.val (.list ds)) :: σ)
        rw [List.filterMap_cons_none rfl]
        exact (List.nodup_cons.mp nd).1
      | succ i =>
        have e' : σ[i]? = some (some (.own a ds)) := by simpa using e
        have nd' : (List.filterMap Slot.ownA (x :: σ)).Nodup := nd
        show a ∉ List.filterMap Slot.ownA (x :: σ.set i (some (.val (.list ds))))
        cases q : Slot.ownA x with
        | none => rw [List.filterMap_cons_none q] at nd' ⊢; exact ih i e' nd'
        | some c =>
          rw [List.filterMap_cons_some q] at nd' ⊢
          obtain ⟨h1, h2⟩ := List.nodup_cons.mp nd'
          intro m
          rcases List.mem_cons.mp m with rfl | m
          · exact h1 (mem_own e')
          · exact ih i e' h2 m
  have naW : a ∉ C.W (σ.set i (some (.val (.list ds)))) := fun m => by
    obtain ⟨its, n, el⟩ := O.lists i a ds e
    rcases List.mem_append.mp m with m | m
    · exact O.ownOut a (mem_own e) m
    rcases List.mem_cons.mp m with rfl | m
    · obtain ⟨ps, q, _⟩ := O.bs.tab; rw [el] at q; cases q
    rcases List.mem_cons.mp m with rfl | m
    · obtain ⟨m, ⟨o, _, _, q, d, _⟩, _⟩ := O.vars; rw [el] at q; cases q; cases d
    rcases List.mem_append.mp m with m | m
    · obtain ⟨y, hy, rfl⟩ := cell_mem m
      obtain ⟨v, o, q, d⟩ := O.cells y hy; rw [el] at q; cases q; cases d
    · exact na σ i e O.owns m
  have V : VarsOk C.F (C.W (σ.set i (some (.val (.list ds))))) (σ.set i (some (.val (.list ds)))) s := by
    obtain ⟨m, hn, hv⟩ := O.vars
    refine ⟨m, hn, fun j y c sl h1 h2 => ?_⟩
    rw [List.getElem?_set] at h2
    split at h2
    · rename_i q
      subst q
      split at h2
      · cases h2
        obtain ⟨v, hh, rfl, vs, p, r⟩ := hv i y c _ h1 e
        exact ⟨_, hh, .list naW p.isList (r.sub (W_sub sub))⟩
      · cases h2
    · obtain ⟨v, hh, hs⟩ := hv j y c sl h1 h2
      exact ⟨v, hh, sden_up (fun _ _ e _ => e) (fun b m => .inl (W_sub sub b m)) hs⟩
  refine h.run A s Q hA ⟨O.bs, V, O.cells, fun j c es q => ?_, fun c m => O.fresh c (W_sub sub c m), O.there, (ownAs_set σ i (.val (.list ds)) rfl).nodup O.owns, fun c m => O.ownOut c (sub c m)⟩ fun fl df σ' s' p O' x b f =>
    hQ fl df σ' s' p O' (x.sub (Wr_sub sub)) (fun c m => (b c m).imp (Wr_sub sub c) id) f
  obtain ⟨k, es', e'⟩ := own_mem (sub c (mem_own q))
  exact O.lists k c es' e'
end
end Mine
namespace Mine
open MineP
section
variable {C : Cx} {σ : Sig} {s s' s'' : Shared} {P : DF → Sig → Prop}
inductive EvEs (C : Cx) (σ : Sig) : List Expr → List D → Prop
  | nil : EvEs C σ [] []
  | cons {e : Expr} {es : List Expr} {d : D} {ds : List D} : EvE C σ e d → EvEs C σ es ds → starEach (e :: es) C.env = (false, eval e C.env) :: starEach es C.env → EvEs C σ (e :: es) (d :: ds)
theorem EvEs.run {pos : Pos} {es : List Expr} {ds : List D} (h : EvEs C σ es ds) : Run C σ (spliced (backTo pos (starEach es C.env))) fun _ vs s' => Dens (C.W σ) s'.heap vs ds := by
  induction h with
  | nil => exact fun A s Q hA O hQ => wpAny_items_nil (hQ [] s (Ext.refl _ _) O .nil)
  | cons he _ hs ih =>
    intro A s Q hA O hQ
    exact spliced_more (he.run A s _ hA O fun v s1 x1 O1 d1 => ih A s1 _ hA O1 fun vs s2 x2 O2 d2 => hQ _ s2 (x1.trans' x2) O2 (.cons (d1.up x2) d2)) hs
theorem EvEs.plain {pos : Pos} {es : List Expr} {ds : List D} (h : EvEs C σ es ds) : (backTo pos (starEach es C.env)).any (·.1) = false := by
  induction h with
  | nil => rfl
  | cons _ _ hs ih =>
    rw [hs]
    show (false || _) = false
    exact ih
theorem EvEs.length {es : List Expr} {ds : List D} (h : EvEs C σ es ds) : es.length = ds.length := by
  induction h with
  | nil => rfl
  | cons _ _ _ ih => simp [ih]

/-- a call, its arguments told -/
noncomputable def OpC (C : Cx) (σ : Sig) (f : Value) (ds : List D) (d : D) : Prop :=
  ∀ (A : Around) (s : Shared) (Q : Value → Shared → Prop) (vs : List Value), AOk C.n A → C.Ok σ s → Dens (C.W σ) s.heap vs ds →
    (∀ v s', Ext [C.X.T] s s' → C.Ok σ s' → Den (C.W σ) s'.heap v d → Q v s') → wpAny C.X.M A (call f vs) Q NE s
noncomputable def FnS (X : Wd) (n : Nat) (f : Value) (ds : List D) (d : D) : Prop :=
  ∀ (A : Around) (s : Shared) (W : List Addr) (vs : List Value) (R : Result → Shared → Prop), AOk n A → Bs X s → X.T ∈ W → (∀ a ∈ W, X.hb.get? a = none ∧ ∃ o, s.heap.get? a = some o) → Dens W s.heap vs ds →
    (∀ v s', Ext [X.T] s s' → Bs X s' → Den W s'.heap v d → R (.ok (.ret v)) s') → codeAny X.M A (.call f ⟨vs, []⟩) R s
theorem FnS.op {n : Nat} {f : Value} {ds : List D} {d : D} (h : FnS C.X n f ds d) (hn : n ≤ C.n) : OpC C σ f ds d := fun A s Q vs hA O r hQ =>
  wpAny_call (h A s (C.W σ) vs _ (hA.le hn) O.bs mem_T (fun a m => ⟨O.fresh a m, O.live a m⟩) r fun v s' x b r' => hQ v s' x (O.extT x b) r')

/-- what may be called without a word: a def of the top, a built-in -/
noncomputable def Calm (X : Wd) (f : Value) : Prop := match f with
  | .ref a => ∃ o fd, X.hb.get? a = some o ∧ o.data = .func fd
  | _ => True
theorem Calm.looks {X : Wd} {f : Value} (h : Calm X f) : ∀ hp : Heap, (∀ a o, X.hb.get? a = some o → hp.get? a = some o) → ∃ k, (k = Keeper.frame ∨ k = Keeper.machine ∨ k = Keeper.boundFrame) ∧ Looks X.M hp (keeperOf f) k := by
  intro hp hk
  cases f with
  | ref a =>
    obtain ⟨o, fd, e, d⟩ := h
    refine ⟨.frame, .inl rfl, ?_⟩
    have : keeperOf (.ref a) = (do
      let o ← load a
      match o.data with
      | .func _ => return .frame
      | .cls _ => return if (← specialOf (.ref a) "__call__") == some (.builtin "type.__call__") then .machine else .caller
      | .fields vs =>
        if o.cls != .type "method" then
          return if o.cls == .type "builtin_function_or_method" || o.cls == .type "method-wrapper" then .machine else .caller
        let .ref g := vs.getD 0 .none | return .machine
        return match (← load g).data with | .func _ => .boundFrame | _ => .caller
      | _ => return .caller) := rfl
    rw [this]
    refine (Looks.ld (part := none) (hk _ _ e)).andThen ?_
    rw [d]
    exact .now
  | _ => exact ⟨.machine, .inr (.inl rfl), Looks.of_pure rfl⟩
theorem EvE.callV {x : Str} {np p : Pos} {args : List Expr} {f : Value} {ds : List D} {d : D} (hf : EvV C σ (.Name x np) f) (hc : Calm C.X f) (ha : EvEs C σ args ds) (ho : OpC C σ f ds d) : EvE C σ (.Call (.Name x np) args [] p) d := .mk fun A s Q hA O hQ =>
  wpAny_Call_NameR (hf.run A s _ hA O fun f' s1 x1 O1 e => by
    subst e
    refine callWith_of (P := fun hp => ∀ a o, C.X.hb.get? a = some o → hp.get? a = some o) (by rw [ha.plain]; rfl) (hc.looks) ?_
    have body : ∀ (Q' : List Value → Shared → Prop), (∀ vs s', Dens (C.W σ) s'.heap vs ds → C.Ok σ s' → Ext [C.X.T] s1 s' → Q' vs s') → wpAny C.X.M A (spliced (backTo p (starEach args C.env))) Q' NE s1 :=
      fun Q' h => ha.run A s1 _ hA O1 fun vs s' x O' r => h vs s' r O' x
    have fin : ∀ vs s', Dens (C.W σ) s'.heap vs ds → C.Ok σ s' → Ext [C.X.T] s1 s' → (∀ a o, C.X.hb.get? a = some o → s'.heap.get? a = some o) ∧ wpAny C.X.M A (call f' ([] ++ vs) []) Q NE s' := fun vs s' r O' x =>
      ⟨O'.bs.le, by rw [List.nil_append]; exact ho A s' Q vs hA O' r fun v s'' x' O'' r' => hQ v s'' ((x1.trans' x).trans' x') O'' r'⟩
    cases ha with
    | nil => exact evalArgs_nil3 (fin [] s1 .nil O1 (Ext.refl _ _))
    | cons h1 h2 hs =>
      have := body (fun vs s' => (∀ a o, C.X.hb.get? a = some o → s'.heap.get? a = some o) ∧ wpAny C.X.M A (call f' ([] ++ vs) []) Q NE s') fin
      rw [hs] at this ⊢
      exact evalArgs_plain this)

noncomputable def typeD : D → Option String
  | .str _ => some "str"
  | .int _ => some "int"
  | .list _ => some "list"
  | .tuple _ => some "tuple"
  | _ => none
theorem EvE.meth {o : Expr} {name x : Str} {apos p : Pos} {args : List Expr} {T id : String} {d₀ d : D} {ds : List D} (ho : EvE C σ o d₀) (hT : d₀ = .str x ∧ T = "str") (hpl : PlainAttrs T) (hs : PySem.Slot T name id) (hty : typeOf (.builtin id) = pure (.type "method_descriptor"))
    (ha : EvEs C σ args ds) (hop : OpC C σ (.builtin id) (d₀ :: ds) d) (hb : attributeBase o name C.env (eval o C.env) = eval o C.env := by rfl) (hl : (apos.endLine == p.line) = true := by rfl)
    (hk : ((((backTo p (starEach args C.env)).all fun x => !x.fst) && (backToKw p (keywordEach [] C.env)).all fun x => x.fst.isSome) && decide ((args.length + ([] : List Keyword).length + if ([] : List Keyword).isEmpty = true then 0 else 1) < 30)) = true := by rfl) :
    EvE C σ (.Call (.Attribute o name apos) args [] p) d := .mk fun A s Q hA O hQ =>
  wpAny_Call_method hb hk hl hpl hs hty (ho.run A s _ hA O fun ov s1 x1 O1 d1 => by
    obtain ⟨rfl, rfl⟩ := hT
    cases d1 with
    | str _ t =>
    refine And.intro (typeIs_str _ _ _) (And.intro (fun a e => nomatch e) ?_)
    refine callWith_of (P := fun _ => True) (by rw [ha.plain]; rfl) (fun h _ => ⟨.machine, .inr (.inl rfl), Looks.of_pure rfl⟩) ?_
    have fin : ∀ vs s', Dens (C.W σ) s'.heap vs ds → C.Ok σ s' → Ext [C.X.T] s1 s' → True ∧ wpAny C.X.M A (call (.builtin id) ([Value.str x t] ++ vs) []) Q NE s' := fun vs s' r O' x' =>
      ⟨trivial, hop A s' Q _ hA O' (.cons (.str x t) r) fun v s'' x'' O'' r' => hQ v s'' ((x1.trans' x').trans' x'') O'' r'⟩
    have body : wpAny C.X.M A (spliced (backTo p (starEach args C.env))) (fun vs s' => True ∧ wpAny C.X.M A (call (.builtin id) ([Value.str x t] ++ vs) []) Q NE s') NE s1 := ha.run A s1 _ hA O1 fun vs s' x O' r => fin vs s' r O' x
    cases ha with
    | nil => exact evalArgs_nil3 (fin [] s1 .nil O1 (Ext.refl _ _))
    | cons h1 h2 hs' =>
      rw [hs'] at body ⊢
      exact evalArgs_plain body)
end
end Mine
namespace Mine
open MineP
section
variable {C : Cx} {σ : Sig} {s s' s'' : Shared} {P : DF → Sig → Prop}
-- displays
theorem EvE.tuple {es : List Expr} {ds : List D} {k : Nat} {p : Pos} (h : EvEs C σ es ds) (hz : ds.length ≤ sizeLine) : EvE C σ (.Tuple es k p) (.tuple ds) := .mk fun A s Q hA O hQ =>
  wpAny_Tuple (h.run A s _ hA O fun vs s1 x1 O1 r => ⟨by rw [r.length]; exact hz, hQ _ { s1 with heap := s1.heap.push { cls := .type "tuple", data := .seq vs.toArray }, toks := s1.toks } (x1.trans' Ext.push) O1.push
    (.tuple (O1.off get_size) ⟨_, Heap.get?_push_size _ rfl, rfl, _, rfl⟩ r.push)⟩)
theorem EvN.list {es : List Expr} {ds : List D} {p : Pos} (h : EvEs C σ es ds) (hz : ds.length ≤ sizeLine) : EvN C σ (.List es p) ds := .mk fun A s Q hA O hQ =>
  wpAny_List (h.run A s _ hA O fun vs s1 x1 O1 r => ⟨by rw [r.length]; exact hz, hQ _ { s1 with heap := s1.heap.push { cls := .type "list", data := .seq vs.toArray }, toks := s1.toks } (x1.trans' Ext.push) O1.push
    ⟨_, vs, rfl, x1.none get_size, ⟨_, Heap.get?_push_size _ rfl⟩, r.ext (fun _ _ _ e => Heap.get?_push_of_some _ e) fun a m => (List.mem_cons.mp m).elim (fun q => .inr (by rw [q]; exact get_size)) .inl⟩⟩)

-- subscripts
theorem sub_ops (slice : Expr) (o i : Value) : ∃ ops, subscripted slice false o i = operate ops (getItem o i) := by
  unfold subscripted
  split
  · exact ⟨_, rfl⟩
  · rename_i h; cases h
  · exact ⟨_, rfl⟩
theorem tail_gen {A : Around} {value slice : Expr} {o i : Value} {T id : String} {Q : Value → Shared → Prop} (hT : s.TypeIs o T) (hl : typeLookup (.type T) "__getitem__" = pure (some (.builtin id))) (hg : wpAny C.X.M A (getItem o i) Q NE s) :
    wpAny C.X.M A (subscriptTail value slice o i) Q NE s := let ⟨ops, e⟩ := sub_ops slice o i; tail_any hT hl hg e
theorem IsList.type {h : Heap} {a : Addr} {its : Array Value} (l : h.IsList a its) {s : Shared} (e : s.heap = h) : s.TypeIs (.ref a) "list" := by subst e; exact l.typeIs
theorem seqIndex_of {i : Int} {n : Nat} (h0 : 0 ≤ i) (h : i.toNat < n) : seqIndex? i n = some i.toNat := by
  unfold seqIndex?
  simp only [if_neg (show ¬ i < 0 by omega)]
  rw [if_pos (by simp only [Bool.and_eq_true, decide_eq_true_eq]; omega)]
theorem EvE.item_list {value slice : Expr} {p : Pos} {ds : List D} {i : Int} {d : D} (h1 : EvL C σ value ds) (h2 : EvE C σ slice (.int i)) (h0 : 0 ≤ i) (hi : i < 2 ^ 63) (hd : ds[i.toNat]? = some d) : EvE C σ (.Subscript value slice p) d := .mk fun A s Q hA O hQ =>
  Subscript_ (h1.run A s _ hA O fun o s1 x1 O1 r1 => h2.run A s1 _ hA O1 fun iv s2 x2 O2 r2 => by
    obtain ⟨a, vs, rfl, l, r⟩ := r1.up O1 x2
    cases r2
    obtain ⟨v, hv, dv⟩ := r.get hd
    exact tail_gen l.typeIs slot_list_getitem.lookup (wpAny_getItem_list l h0 hi (by simpa using hv) (hQ v s2 (x1.trans' x2) O2 dv)))
theorem EvE.item_tuple {value slice : Expr} {p : Pos} {ds : List D} {i : Int} {d : D} (h1 : EvE C σ value (.tuple ds)) (h2 : EvE C σ slice (.int i)) (h0 : 0 ≤ i) (hi : i < 2 ^ 63) (hd : ds[i.toNat]? = some d) : EvE C σ (.Subscript value slice p) d := .mk fun A s Q hA O hQ =>
  Subscript_ (h1.run A s _ hA O fun o s1 x1 O1 r1 => h2.run A s1 _ hA O1 fun iv s2 x2 O2 r2 => by
    have r1' := r1.up x2
    cases r1' with
    | @tuple a vs _ n l r =>
    cases r2
    obtain ⟨v, hv, dv⟩ := r.get hd
    have hlt : i.toNat < ds.length := (List.getElem?_eq_some_iff.mp hd).1
    refine tail_gen (T := "tuple") (let ⟨o, e, c, _⟩ := l; ⟨o, e, c⟩) slot_tuple_getitem.lookup (getItem_tuple l (by omega) hi (j := i.toNat) ?_ (by simpa using hv) (hQ v s2 (x1.trans' x2) O2 dv))
    have hz : vs.toArray.size = ds.length := by simp [r.length]
    exact seqIndex_of h0 (by omega))
theorem EvE.item_str {value slice : Expr} {p : Pos} {x : Str} {i : Int} {c : Nat} (h1 : EvE C σ value (.str x)) (h2 : EvE C σ slice (.int i)) (h0 : 0 ≤ i) (hi : i < 2 ^ 63) (hd : x.cps[i.toNat]? = some c) : EvE C σ (.Subscript value slice p) (.str ⟨#[c]⟩) := .mk fun A s Q hA O hQ =>
  Subscript_ (h1.run A s _ hA O fun o s1 x1 O1 r1 => h2.run A s1 _ hA O1 fun iv s2 x2 O2 r2 => by
    cases r1; cases r2
    have hlt : i.toNat < x.length := (Array.getElem?_eq_some_iff.mp hd).1
    refine tail_gen (T := "str") (typeIs_str _ _ _) F.slot_str_getitem.lookup (P.getItem_str (by simp; omega) (c := c) ?_ (hQ _ _ ((x1.trans' x2).trans' Ext.toks) O2.toks (.str _ _)))
    have hlt' : i.toNat < x.cps.size := hlt
    have e : seqIndex? i x.length = some i.toNat := seqIndex_of h0 hlt
    rw [e]; exact hd)
-- parts of a slice
inductive EvO (C : Cx) (σ : Sig) : Option Expr → Option Int → Prop
  | none : EvO C σ none none
  | some {e : Expr} {i : Int} : EvE C σ e (.int i) → EvO C σ (some e) (some i)
theorem EvO.run {e : Option Expr} {i : Option Int} (h : EvO C σ e i) : Run C σ (evalPart e C.env) fun _ v _ => ∃ l : Option (Int × Tok), v = partValue l ∧ l.map (·.1) = i := by
  cases h with
  | none => exact fun A s Q hA O hQ => wpAny_pure (hQ _ s (Ext.refl _ _) O ⟨Option.none, rfl, rfl⟩)
  | some h => exact fun A s Q hA O hQ => wpAny_evalPart_some (h.run A s _ hA O fun v s1 x1 O1 r => hQ v s1 x1 O1 (by cases r with | int _ t => exact ⟨Option.some (_, t), rfl, rfl⟩))
theorem partOf {l : Option (Int × Tok)} : IsPart (partValue l) (l.map (·.1)) := by
  cases l with
  | none => exact .none
  | some p => exact .int _ _
theorem slice_run {lo up : Option Expr} {sp : Pos} {l u : Option Int} (h1 : EvO C σ lo l) (h2 : EvO C σ up u) : Run C σ (eval (.Slice lo up none sp) C.env) fun _ v s' => ∃ a l' u', v = .ref a ∧ s'.heap.IsSlice a l' u' none ∧ l'.map (·.1) = l ∧ u'.map (·.1) = u := fun A s Q hA O hQ =>
  wpAny_Slice (h1.run A s _ hA O fun v1 s1 x1 O1 ⟨l', e1, f1⟩ => h2.run A s1 _ hA O1 fun v2 s2 x2 O2 ⟨u', e2, f2⟩ => wpAny_pure (by
    refine hQ _ { s2 with heap := s2.heap.push _, toks := s2.toks } ((x1.trans' x2).trans' Ext.push) O2.push ⟨_, l', u', rfl, ⟨_, Heap.get?_push_size _ rfl, rfl, ?_⟩, f1, f2⟩
    subst e1 e2; rfl))
theorem EvE.slice_str {value : Expr} {lo up : Option Expr} {sp p : Pos} {x y : Str} {l u : Option Int} (h1 : EvE C σ value (.str x)) (h2 : EvO C σ lo l) (h3 : EvO C σ up u) (hy : ∀ l' u' t, l'.map (·.1) = l → u'.map (·.1) = u → ∀ (Q : Value → Shared → Prop) s, (∀ t' tk, Q (.str y t') { s with toks := tk }) → (sliceMade x t l' u' none).post Q s) :
    EvE C σ (.Subscript value (.Slice lo up none sp) p) (.str y) := .mk fun A s Q hA O hQ =>
  Subscript_ (h1.run A s _ hA O fun o s1 x1 O1 r1 => slice_run h2 h3 A s1 _ hA O1 fun iv s2 x2 O2 ⟨a, l', u', ea, hs, f1, f2⟩ => by
    subst ea
    cases r1 with
    | str _ t =>
    exact tail_gen (T := "str") (typeIs_str _ _ _) F.slot_str_getitem.lookup (wpAny_getItem_str_slice hs rfl (hy l' u' t f1 f2 _ _ fun t' tk => hQ _ _ ((x1.trans' x2).trans' Ext.toks) O2.toks (.str _ _))))
theorem EvN.slice_list {value : Expr} {lo up : Option Expr} {sp p : Pos} {ds es : List D} {l u : Option Int} (h1 : EvL C σ value ds) (h2 : EvO C σ lo l) (h3 : EvO C σ up u) (hz : ds.length ≤ sizeLine)
    (hy : ∀ (W : List Addr) (h : Heap) (vs : List Value), Dens W h vs ds → ∃ ws : List Value, slicePick vs.toArray l u none = ws.toArray ∧ Dens W h ws es) :
    EvN C σ (.Subscript value (.Slice lo up none sp) p) es := .mk fun A s Q hA O hQ =>
  Subscript_ (h1.run A s _ hA O fun o s1 x1 O1 r1 => slice_run h2 h3 A s1 _ hA O1 fun iv s2 x2 O2 ⟨a, l', u', ea, ⟨os, e1, e2, e3⟩, f1, f2⟩ => by
    subst ea
    obtain ⟨b, vs, rfl, li, r⟩ := r1.up O1 x2
    obtain ⟨ws, ew, rw'⟩ := hy _ _ vs r
    subst f1 f2
    refine tail_gen li.typeIs slot_list_getitem.lookup (wpAny_getItem_list_slice li ⟨os, e1, e2, e3⟩ partOf partOf .none (by simp) ?_ (by simpa [r.length] using hz))
    rw [ew]
    exact hQ _ { s2 with heap := s2.heap.push _, toks := s2.toks } ((x1.trans' x2).trans' Ext.push) O2.push ⟨_, ws, rfl, (x1.trans' x2).none get_size, ⟨_, Heap.get?_push_size _ rfl⟩, rw'.ext (fun _ _ _ e => Heap.get?_push_of_some _ e) fun a m => (List.mem_cons.mp m).elim (fun q => .inr (by rw [q]; exact get_size)) .inl⟩)
end
end Mine
namespace Mine
open MineP
noncomputable def NoRo (σ : Sig) : Prop := ∀ (j : Nat) a es, σ[j]? ≠ some (some (.ro a es))
noncomputable def noRoB (σ : Sig) : Bool := σ.all fun x => match x with
  | some (.ro _ _) => false
  | _ => true
theorem noRo_of {σ : Sig} (h : noRoB σ = true) : NoRo σ := fun j a es e => by
  have := List.all_eq_true.mp h _ (List.mem_of_getElem? e)
  cases this
section
variable {C : Cx} {σ : Sig} {s s' s'' : Shared} {P : DF → Sig → Prop}
theorem write_own {i : Nat} {a : Addr} {ds es : List D} {ws : List Value} {h' : Heap} {tk : Nat} (e : σ[i]? = some (some (.own a ds))) (nr : NoRo σ) (O : C.Ok σ s) (hs : Heap.SameBut a s.heap h') (hp : h'.PlainList a ws.toArray) (hd : Dens (C.W σ) s.heap ws es) :
    C.Ok (σ.set i (some (.own a es))) { s with heap := h', toks := tk } ∧ Ext (C.Wr σ) s { s with heap := h', toks := tk } := by
  have eo : ownAs (σ.set i (some (.own a es))) = ownAs σ := ownAs_same σ i a ds es e
  have eW : C.Wr (σ.set i (some (.own a es))) = C.Wr σ := by unfold Cx.Wr Wr; rw [eo]
  have eW' : C.W (σ.set i (some (.own a es))) = C.W σ := by show C.Wo ++ _ = C.Wo ++ _; rw [show Wr C.X C.F (σ.set i (some (.own a es))) = Wr C.X C.F σ from eW]
  have am : a ∈ C.W σ := List.mem_append_right _ (.tail _ (.tail _ (List.mem_append_right _ (mem_own e))))
  obtain ⟨its, n, el⟩ := O.lists i a ds e
  have k : ∀ b o, b ≠ a → s.heap.get? b = some o → h'.get? b = some o := fun b o n e => hs.extBut b o n e
  have kW : ∀ b o, b ∉ C.W σ → s.heap.get? b = some o → h'.get? b = some o := fun b o n e => k b o (fun q => n (q ▸ am)) e
  obtain ⟨n', en⟩ := id hp
  have dif : ∀ {b : Addr} {o : Obj}, s.heap.get? b = some o → (∀ vs n, o.data ≠ .seq vs n) → b ≠ a := fun e' h q => by subst q; rw [el] at e'; cases e'; exact h _ _ rfl
  have ex : Ext (C.Wr σ) s { s with heap := h', toks := tk } := ⟨fun b o n e' => k b o (fun q => n (q ▸ .tail _ (.tail _ (List.mem_append_right _ (mem_own e))))) e', fun b o e' => by
    by_cases q : b = a
    · subst q; exact ⟨_, en⟩
    · exact ⟨o, k b o q e'⟩, rfl⟩
  obtain ⟨m, hn, hv⟩ := O.vars
  refine ⟨⟨⟨fun b o e' => kW b o (fun m => by have := O.fresh b m; rw [e'] at this; cases this) (O.bs.le b o e'), ?_, O.bs.bare⟩, ⟨m, ?_, fun j y c sl h1 h2 => ?_⟩, fun y hy => ?_, fun j b es' e' => ?_, fun b m => O.fresh b (by have m' : b ∈ C.W (σ.set i (some (.own a es))) := m; rw [eW'] at m'; exact m'), fun b m => ?_, by rw [eo]; exact O.owns, fun b m => O.ownOut b (eo ▸ m)⟩, ex⟩
  · obtain ⟨ps, e', r⟩ := O.bs.tab
    exact ⟨ps, k _ _ (dif e' fun vs n q => by cases q) e', r⟩
  · obtain ⟨o, es', ep, e', d, r⟩ := hn
    exact ⟨o, es', ep, k _ _ (dif e' fun vs n q => by rw [d] at q; cases q) e', d, r⟩
  · show ∃ v, Holds C.F h' m y c v ∧ SDen (C.W (σ.set i (some (.own a es)))) h' v sl
    rw [eW']
    have hold : ∀ v, Holds C.F s.heap m y c v → Holds C.F h' m y c v := fun v hh => by
      cases c with
      | false => exact hh
      | true => obtain ⟨o, e', d⟩ := hh; exact ⟨o, k _ _ (dif e' fun vs n q => by rw [d] at q; cases q) e', d⟩
    rw [List.getElem?_set] at h2
    split at h2
    · rename_i q
      subst q
      split at h2
      · cases h2
        obtain ⟨v, hh, rfl, vs, p, r⟩ := hv i y c _ h1 e
        exact ⟨_, hold _ hh, rfl, ws, hp, hd.ext kW fun _ m => .inl m⟩
      · cases h2
    · rename_i hj
      obtain ⟨v, hh, hsd⟩ := hv j y c sl h1 h2
      refine ⟨v, hold _ hh, ?_⟩
      cases sl with
      | val d => exact hsd.ext kW fun _ m => .inl m
      | own b es' =>
        obtain ⟨ev, vs, ⟨n, p⟩, r⟩ := hsd
        refine ⟨ev, vs, ⟨n, k _ _ (fun q => ?_) p⟩, r.ext kW fun _ m => .inl m⟩
        subst q
        exact own_two O.owns hj e h2
      | app b => obtain ⟨q, ev, n, g⟩ := hsd; exact ⟨q, ev, n, kW _ _ n g⟩
      | ro b es' => exact absurd h2 (nr j b es')
  · obtain ⟨v, o, e', d⟩ := O.cells y hy
    exact ⟨v, o, k _ _ (dif e' fun vs n q => by rw [d] at q; cases q) e', d⟩
  · obtain ⟨x, hx⟩ : ∃ x, x = b := ⟨b, rfl⟩
    by_cases q : b = a
    · subst q; exact ⟨_, hp⟩
    · obtain ⟨kk, es'', e''⟩ := own_mem (eo ▸ mem_own e')
      obtain ⟨its', n, p⟩ := O.lists kk b es'' e''
      exact ⟨its', n, k _ _ q p⟩
  · obtain ⟨o, e'⟩ := O.there b m
    exact ex.dom b o e'
where
  own_two {σ : Sig} : ∀ {i j : Nat} {b : Addr} {ds es : List D}, (ownAs σ).Nodup → i ≠ j → σ[i]? = some (some (.own b ds)) → σ[j]? = some (some (.own b es)) → False := by
    induction σ with
    | nil => intro i j b ds es _ _ e; cases e
    | cons x σ ih =>
      intro i j b ds es nd h e1 e2
      have nd' : (List.filterMap Slot.ownA (x :: σ)).Nodup := nd
      cases i with
      | zero =>
        cases e1
        rw [List.filterMap_cons_some (show Slot.ownA (some (.own b ds)) = some b from rfl)] at nd'
        cases j with
        | zero => exact h rfl
        | succ j => exact (List.nodup_cons.mp nd').1 (mem_own (by simpa using e2))
      | succ i =>
        cases j with
        | zero =>
          cases e2
          rw [List.filterMap_cons_some (show Slot.ownA (some (.own b es)) = some b from rfl)] at nd'
          exact (List.nodup_cons.mp nd').1 (mem_own (by simpa using e1))
        | succ j =>
          have nd2 : (ownAs σ).Nodup := by
            cases q : Slot.ownA x with
            | none => rw [List.filterMap_cons_none q] at nd'; exact nd'
            | some c => rw [List.filterMap_cons_some q] at nd'; exact (List.nodup_cons.mp nd').2
          exact ih nd2 (fun z => h (congrArg Nat.succ z)) (by simpa using e1) (by simpa using e2)

theorem own_name (hF : FmOk C.F) {A : Around} {i : Nat} {x : Str} {b : Bool} {p : Pos} {a : Addr} {ds : List D} {Q : Value → Shared → Prop} (e1 : C.F.lay[i]? = some (x, b)) (e2 : σ[i]? = some (some (.own a ds))) (O : C.Ok σ s)
    (h : ∀ vs : List Value, s.heap.PlainList a vs.toArray → Dens (C.W σ) s.heap vs ds → Q (.ref a) s) : wpAny C.X.M A (eval (.Name x p) C.env) Q NE s := by
  obtain ⟨m, hn, hv⟩ := O.vars
  obtain ⟨v, hh, rfl, vs, pl, hd⟩ := hv i x b _ e1 e2
  have hm := List.mem_of_getElem? e1
  refine wpAny_Name ?_ (hF.dbgL _ hm)
  cases b with
  | false => exact wpAny_loadName_local hF.kind (hF.names _ hm) hn hh (h vs pl hd)
  | true =>
    obtain ⟨c, hc⟩ := hF.cells _ hm rfl
    refine wpAny_loadName_cell hF.kind (hF.names _ hm) hc (v := .ref a) ?_ (h vs pl hd)
    have hcx : C.F.cell x = c := by unfold Fm.cell; rw [hc]; rfl
    exact hcx ▸ hh
theorem plain_keep {a : Addr} {its : Array Value} {s s' : Shared} (O : C.Ok σ s) (p : s.heap.PlainList a its) (x : Ext [C.X.T] s s') : s'.heap.PlainList a its := plain_up (x.inert O.bs.inertT) p
/-- x.append(e) -/
theorem WS.append (hF : FmOk C.F) {i : Nat} {x : Str} {b : Bool} {px apos cp p : Pos} {a : Addr} {ds : List D} {e : Expr} {d : D} (e1 : C.F.lay[i]? = some (x, b)) (e2 : σ[i]? = some (some (.own a ds))) (nr : NoRo σ) (he : EvE C σ e d) (hz : ds.length ≤ sizeLine)
    (k : P .next (σ.set i (some (.own a (ds ++ [d]))))) (hl : (apos.endLine == cp.line) = true := by rfl) (hst : starEach [e] C.env = [(false, eval e C.env)] := by rfl)
    (hi : interactive C.env = false := by rfl) : WS C σ (exec (.Expr (.Call (.Attribute (.Name x px) "append" apos) [e] [] cp) p) C.env) P := .mk fun A s Q hA O hQ => by
  have hb : backTo cp (starEach [e] C.env) = [(false, eval e C.env)] := by rw [hst]; rfl
  refine wpAny_Expr (wpAny_Call_append rfl (by rw [hb]; rfl) hl hb (own_name hF e1 e2 O fun vs pl hd => ⟨a, vs.toArray, rfl, let ⟨n, q⟩ := pl; ⟨_, n, q, rfl, rfl, rfl⟩, he.run A s _ hA O fun v s1 x1 O1 d1 => ?_⟩)) hi rfl
  refine wpAny_list_append_plain (plain_keep O pl x1) (fun h' hp hs => ?_) (by have := hd.length; simp; omega)
  obtain ⟨O2, x2⟩ := write_own (tk := s1.toks) e2 nr O1 hs (ws := vs ++ [v]) (by simpa using hp) ((hd.up x1).append (.cons d1 .nil))
  exact hQ .next .next _ _ k O2 (x1.ofT.trans' x2) (Sub.of_eq fun c m => ownAs_same σ i a ds _ e2 ▸ m) trivial
/-- x.extend([..]) -/
theorem WS.extend (hF : FmOk C.F) {i : Nat} {x : Str} {b : Bool} {px apos cp p : Pos} {a : Addr} {ds es : List D} {e : Expr} (e1 : C.F.lay[i]? = some (x, b)) (e2 : σ[i]? = some (some (.own a ds))) (nr : NoRo σ) (he : EvN C σ e es) (hz : ds.length + es.length ≤ 1000)
    (k : P .next (σ.set i (some (.own a (ds ++ es))))) (hl : (apos.endLine == cp.line) = true := by rfl) (hst : starEach [e] C.env = [(false, eval e C.env)] := by rfl)
    (hi : interactive C.env = false := by rfl) : WS C σ (exec (.Expr (.Call (.Attribute (.Name x px) "extend" apos) [e] [] cp) p) C.env) P := .mk fun A s Q hA O hQ => by
  have hb : backTo cp (starEach [e] C.env) = [(false, eval e C.env)] := by rw [hst]; rfl
  refine wpAny_Expr (wpAny_Call_method rfl (by rw [hb]; rfl) hl F.plainAttrs_list F.slot_list_extend F.type_list_extend (own_name hF e1 e2 O fun vs pl hd => ?_)) hi rfl
  refine And.intro (pl.isList.typeIs) (And.intro (fun a' q => by cases q; obtain ⟨n, q⟩ := pl; exact ⟨_, q, rfl⟩) ?_)
  refine callWith_of (P := fun _ => True) (by rw [hb]; rfl) (fun h _ => ⟨.machine, .inr (.inl rfl), Looks.of_pure rfl⟩) ?_
  rw [hb]
  refine evalArgs_plain (spliced_cons (he.run A s _ hA O fun v s1 x1 O1 ⟨c, ws, ev, hn, hp, hw⟩ => spliced_nil ⟨trivial, ?_⟩))
  subst ev
  obtain ⟨n1, q1⟩ := plain_keep O pl x1
  obtain ⟨n2, q2⟩ := hp
  have l1 := hd.length
  have l2 := hw.length
  refine call_meets F.slot_list_extend ⟨_, q1, rfl⟩ F.entry_list_extend (F.args_list_extend_2 _ _) (AutoSeq1.list_extend_list_list_0 a vs.toArray n1 c ws.toArray n2 (extend_door (by simp; rw [sizeLine_eq]; omega)) (by simp; rw [sizeLine_eq]; omega) (by simp; rw [sizeLine_eq]; omega)) ⟨q1, q2, ?_⟩
  have hpl : (s1.heap.update a (Obj.mapSeq fun y => y ++ ws.toArray)).PlainList a (vs ++ ws).toArray := by
    have := Heap.get?_update_self (Obj.mapSeq fun y => y ++ ws.toArray) q1 rfl
    refine ⟨if (vs.toArray ++ ws.toArray).size == vs.toArray.size then n1 else n1 + 1, ?_⟩
    rw [this]
    show some (Obj.mk _ _ (.seq (vs.toArray ++ ws.toArray) _) _) = _
    simp
  obtain ⟨O2, x2⟩ := write_own (tk := s1.toks) e2 nr O1 (Heap.SameBut.update (a := a) (f := Obj.mapSeq fun y => y ++ ws.toArray) (h := s1.heap)) (ws := vs ++ ws) hpl ((hd.up x1).append (hw.sub fun _ m => .tail _ m))
  exact hQ .next .next _ _ k O2 (x1.ofT.trans' x2) (Sub.of_eq fun c m => ownAs_same σ i a ds _ e2 ▸ m) trivial
end
end Mine
namespace Mine
open MineP
noncomputable def sig0 (ds : List D) (k : Nat) : Sig := (ds.map fun d => some (.val d)) ++ List.replicate k none
theorem sig0_get {ds : List D} {k i : Nat} {sl : Slot} (e : (sig0 ds k)[i]? = some (some sl)) : ∃ d, ds[i]? = some d ∧ sl = .val d := by
  unfold sig0 at e
  rw [List.getElem?_append] at e
  split at e
  · rw [List.getElem?_map] at e
    cases q : ds[i]? with
    | none => rw [q] at e; cases e
    | some d => rw [q] at e; cases e; exact ⟨d, rfl, rfl⟩
  · have := List.mem_of_getElem? e
    have := List.eq_of_mem_replicate this
    cases this
theorem sig0_own (ds : List D) (k : Nat) : ownAs (sig0 ds k) = [] := by
  cases h : ownAs (sig0 ds k) with
  | nil => rfl
  | cons a r =>
    obtain ⟨i, es, e⟩ := own_mem (σ := sig0 ds k) (a := a) (by rw [h]; exact .head _)
    obtain ⟨d, _, q⟩ := sig0_get e
    cases q
theorem zip_lookup : ∀ (ps : List Str) (vs : List Value) (i : Nat) (x : Str) (v : Value), ps.Nodup → ps[i]? = some x → vs[i]? = some v → List.lookup x (ps.zip vs).reverse = some v := by
  intro ps
  induction ps with
  | nil => intro vs i x v _ e _; cases e
  | cons p ps ih =>
    intro vs i x v nd e1 e2
    obtain ⟨h1, h2⟩ := List.nodup_cons.mp nd
    cases vs with
    | nil => cases e2
    | cons w vs =>
      rw [List.zip_cons_cons, List.reverse_cons, List.lookup_append]
      cases i with
      | zero =>
        cases e1; cases e2
        have : List.lookup p (ps.zip vs).reverse = none := by
          rw [List.lookup_eq_none_iff]
          intro q hq
          have := List.mem_reverse.mp hq
          have := (List.of_mem_zip this).1
          rw [bne_iff_ne]
          intro z
          exact h1 (z ▸ this)
        rw [this]
        simp [List.lookup]
      | succ i =>
        rw [ih vs i x v h2 (by simpa using e1) (by simpa using e2)]; rfl

/-- what a def is, as the top laid it -/
structure DefAt (X : Wd) (a : Addr) (fd : FuncData) (body : List Stmt) (ps : List Str) : Prop where
  obj : ∃ o, X.hb.get? a = some o ∧ o.data = .func fd
  code : X.hb.CodeRec fd.code fd.qualname
  body : fd.body = .stmts body
  bind : ∀ vs : List Value, vs.length = ps.length → bindArgs fd ⟨vs, []⟩ = pure (ps.zip vs)
  co : fd.scope.isCoroutine = false
  gen : fd.scope.isGenerator = false
  kind : fd.scope.kind = .function
theorem DefAt.calm {X : Wd} {a : Addr} {fd : FuncData} {body : List Stmt} {ps : List Str} (h : DefAt X a fd body ps) : Calm X (.ref a) := let ⟨o, e, d⟩ := h.obj; ⟨o, fd, e, d⟩

theorem FnS.plain {X : Wd} {n : Nat} {a : Addr} {fd : FuncData} {body : List Stmt} {ps : List Str} {lay : List (Str × Bool)} {glob : List Str} {ds : List D} {d : D} (hX : WOk X) (hD : DefAt X a fd body ps)
    (hcell : ∀ x ∈ fd.scope.names, x.2 ≠ .cell) (hloc : ∀ x ∈ ps, fd.scope.names.lookup x = some .local) (hF : ∀ L, FmOk ⟨callEnv fd L a, lay, glob⟩) (hlay : ∀ (i : Nat) x b, lay[i]? = some (x, b) → i < ps.length → ps[i]? = some x) (hnc : ∀ p ∈ lay, p.2 = false) (hnd : ps.Nodup)
    (hlen : ds.length = ps.length)
    (h : ∀ L Wo, WS ⟨X, ⟨callEnv fd L a, lay, glob⟩, Wo, n⟩ (sig0 ds (lay.length - ps.length)) (execs body (callEnv fd L a)) (fun df _ => df = .ret d)) : FnS X (n + 1) (.ref a) ds d := fun A s W vs Q hA B hT hW r hQ => by
  obtain ⟨o, ho, hd⟩ := hD.obj
  have hvl : vs.length = ps.length := r.length.trans hlen
  refine codeAny_call_def (binds := ps.zip vs) hA.room (B.le _ _ ho) hd (hX.lim.keeps B.le) (hD.code.keeps B.le) hD.body (BindsTo.of_eq (hD.bind vs hvl)) hcell (fun y hy => hloc _ (List.of_mem_zip hy).1) (fun h₀ hns hk => ?_) hD.co hD.gen hD.kind
  let L := s.heap.objs.size
  have hL : s.heap.get? L = none := get_size
  let C : Cx := ⟨X, ⟨callEnv fd L a, lay, glob⟩, W, n⟩
  let s₁ : Shared := { s with heap := h₀, toks := s.toks + (ps.zip vs).length }
  have ex0 : Ext [X.T] s s₁ := ⟨fun a o _ e => hk a o e, fun a o e => ⟨o, hk a o e⟩, rfl⟩
  have B1 : Bs X s₁ := ⟨fun a o e => hk a o (B.le a o e), let ⟨ps, e, r⟩ := B.tab; ⟨ps, hk _ _ e, r⟩, B.bare⟩
  have eWr : Mine.Wr X C.F (sig0 ds (lay.length - ps.length)) = [X.T, L] := by
    unfold Mine.Wr
    rw [sig0_own]
    have : C.F.cellAs = [] := by
      show ((lay.filter (·.2)).map fun p => C.F.cell p.1) = []
      rw [List.filter_eq_nil_iff.mpr (fun p hp => by rw [hnc p hp]; exact Bool.false_ne_true)]; rfl
    rw [this]; rfl
  have up : ∀ {vs ds}, Dens W s.heap vs ds → Dens (W ++ Mine.Wr X C.F (sig0 ds (lay.length - ps.length))) h₀ vs ds → True := fun _ _ => trivial
  have W2 : ∀ a ∈ W ++ [X.T, L], a ∈ W ∨ s.heap.get? a = none := fun a m => by
    rcases List.mem_append.mp m with m | m
    · exact .inl m
    rcases List.mem_cons.mp m with rfl | m
    · exact .inl hT
    · rw [List.mem_singleton.mp m]; exact .inr hL
  have O : C.Ok (sig0 ds (lay.length - ps.length)) s₁ := by
    refine ⟨B1, ⟨_, hns, fun i x b sl h1 h2 => ?_⟩, fun x hx => absurd (hnc _ hx) (fun q => nomatch q), fun i c es e => ?_, fun c m => ?_, fun c m => ?_, by rw [sig0_own]; exact List.nodup_nil, by rw [sig0_own]; exact fun _ m => nomatch m⟩
    · obtain ⟨d', hd', rfl⟩ := sig0_get h2
      have hi : i < ps.length := hlen ▸ (List.getElem?_eq_some_iff.mp hd').1
      obtain ⟨v, hv, dv⟩ := r.get hd'
      have hb : b = false := hnc _ (List.mem_of_getElem? h1)
      subst hb
      refine ⟨v, zip_lookup ps vs i x v hnd (hlay i x _ h1 hi) hv, ?_⟩
      show Den (W ++ Mine.Wr X C.F _) h₀ v d'
      rw [eWr]
      exact dv.ext (fun a o _ e => hk a o e) W2
    · obtain ⟨d', _, q⟩ := sig0_get e; cases q
    · have m' : c ∈ W ++ [X.T, L] := by rw [← eWr]; exact m
      rcases List.mem_append.mp m' with m | m
      · exact (hW c m).1
      rcases List.mem_cons.mp m with rfl | m
      · exact hX.hid
      · rw [List.mem_singleton.mp m]
        cases q : X.hb.get? L with
        | none => rfl
        | some o => have := B.le _ _ q; rw [hL] at this; cases this
    · obtain ⟨o, e⟩ := (hW c m).2; exact ⟨o, hk _ _ e⟩
  refine wpAny_mono ((h L W).run (A.deeper (callEnv fd L a)) s₁ _ (hA.deeper _) O fun fl df σ' s' p O' x b f => ?_) (fun fl s' q => q) (fun e s' q => q.elim)
  subst p
  cases fl with
  | ret v =>
    refine hQ v s' ⟨fun c o n e => x.keep c o (fun m => ?_) (hk c o e), fun c o e => x.dom c o (hk c o e), x.os⟩ O'.bs f
    have m' : c ∈ [X.T, L] := by rw [← eWr]; exact m
    rcases List.mem_cons.mp m' with rfl | m
    · exact n (.head _)
    · rw [List.mem_singleton.mp m, hL] at e; cases e
  | _ => exact f.elim
end Mine
namespace Mine
open MineP
section
variable {k : Str → Option NameKind}
theorem bindL_other : ∀ (binds : List (Str × Value)) (m : Str → Option Value) (x : Str), (∀ p ∈ binds, p.1 ≠ x) → bindL k binds m x = m x
  | [], _, _, _ => rfl
  | (n, v) :: r, m, x, h => by
    rw [bindL, bindL_other r _ x fun p hp => h p (.tail _ hp)]
    have hn : ¬ x = n := fun q => h (n, v) (.head _) q.symm
    split
    · simp [hn]
    · rfl
theorem bindC_other : ∀ (binds : List (Str × Value)) (m : Str → Option Value) (x : Str), (∀ p ∈ binds, p.1 ≠ x) → bindC k binds m x = m x
  | [], _, _, _ => rfl
  | (n, v) :: r, m, x, h => by
    rw [bindC, bindC_other r _ x fun p hp => h p (.tail _ hp)]
    have hn : ¬ x = n := fun q => h (n, v) (.head _) q.symm
    split
    · rfl
    · simp [hn]
theorem zip_fst {ps : List Str} {vs : List Value} {x : Str} (h : x ∉ ps) : ∀ p ∈ ps.zip vs, p.1 ≠ x := fun p hp q => h (q ▸ (List.of_mem_zip hp).1)
theorem bindL_get : ∀ (ps : List Str) (vs : List Value) (m : Str → Option Value) (i : Nat) (x : Str) (v : Value), ps.Nodup → ps[i]? = some x → vs[i]? = some v → k x = some .local → bindL k (ps.zip vs) m x = some v := by
  intro ps
  induction ps with
  | nil => intro vs m i x v _ e; cases e
  | cons p ps ih =>
    intro vs m i x v nd e1 e2 hk
    obtain ⟨h1, h2⟩ := List.nodup_cons.mp nd
    cases vs with
    | nil => cases e2
    | cons w vs =>
      rw [List.zip_cons_cons, bindL]
      cases i with
      | zero => cases e1; cases e2; rw [bindL_other _ _ _ (zip_fst h1), if_pos hk]; simp
      | succ i => exact ih vs _ i x v h2 (by simpa using e1) (by simpa using e2) hk
theorem bindC_get : ∀ (ps : List Str) (vs : List Value) (m : Str → Option Value) (i : Nat) (x : Str) (v : Value), ps.Nodup → ps[i]? = some x → vs[i]? = some v → k x = some .cell → bindC k (ps.zip vs) m x = some v := by
  intro ps
  induction ps with
  | nil => intro vs m i x v _ e; cases e
  | cons p ps ih =>
    intro vs m i x v nd e1 e2 hk
    obtain ⟨h1, h2⟩ := List.nodup_cons.mp nd
    cases vs with
    | nil => cases e2
    | cons w vs =>
      rw [List.zip_cons_cons, bindC]
      cases i with
      | zero => cases e1; cases e2; rw [bindC_other _ _ _ (zip_fst h1), if_neg (by rw [hk]; exact fun q => nomatch q)]; simp
      | succ i => exact ih vs _ i x v h2 (by simpa using e1) (by simpa using e2) hk
end
theorem cellsFrom_pairs : ∀ (names : List (Str × NameKind)) (n : Nat) (acc : List (Str × Addr)), acc.Pairwise (fun x y => x.2 ≠ y.2) → (∀ p ∈ acc, p.2 < n) → (cellsFrom n names acc).Pairwise (fun x y => x.2 ≠ y.2)
  | [], _, _, h, _ => h
  | (x, kd) :: r, n, acc, h, hl => by
    unfold cellsFrom
    split
    · exact cellsFrom_pairs r (n + 1) _ (List.pairwise_cons.mpr ⟨fun p hp => Nat.ne_of_gt (hl p hp), h⟩) fun p hp => by
        rcases List.mem_cons.mp hp with rfl | hp
        · exact Nat.lt_succ_self _
        · exact Nat.lt_succ_of_lt (hl p hp)
    · exact cellsFrom_pairs r n acc h hl
theorem pair_unique {l : List (Str × Addr)} (h : l.Pairwise fun x y => x.2 ≠ y.2) {p q : Str × Addr} (hp : p ∈ l) (hq : q ∈ l) (e : p.2 = q.2) : p = q := by
  induction l with
  | nil => cases hp
  | cons a r ih =>
    obtain ⟨h1, h2⟩ := List.pairwise_cons.mp h
    rcases List.mem_cons.mp hp with z | hp'
    · rcases List.mem_cons.mp hq with z' | hq'
      · exact z.trans z'.symm
      · subst z; exact absurd e (h1 _ hq')
    · rcases List.mem_cons.mp hq with z' | hq'
      · subst z'; exact absurd e.symm (h1 _ hp')
      · exact ih h2 hp' hq'
theorem lookup_mem {l : List (Str × Addr)} {x : Str} {c : Addr} (e : l.lookup x = some c) : (x, c) ∈ l := by
  induction l with
  | nil => cases e
  | cons a r ih =>
    obtain ⟨y, d⟩ := a
    rw [List.lookup_cons] at e
    cases q : x == y with
    | true => rw [q] at e; cases e; rw [eq_of_beq q]; exact .head _
    | false => rw [q] at e; exact .tail _ (ih e)

/-- what a scope must say of a frame's names -/
noncomputable def fmCheck (sc : Scope) (lay : List (Str × Bool)) (glob : List Str) : Bool :=
  lay.all (fun p => sc.names.lookup p.1 == some (if p.2 then NameKind.cell else .local) && !(p.1 == ("__debug__" : Str))) && glob.all (fun x => sc.names.lookup x == some .globalImplicit && !(x == ("__debug__" : Str))) && decide (lay.map (·.1)).Nodup
theorem cells_lookup : ∀ (names : List (Str × NameKind)) (n : Nat) (acc : List (Str × Addr)) (x : Str), names.lookup x = some .cell → ∃ c, (cellsFrom n names acc).lookup x = some c := by
  intro names n acc x h
  have := cellsFrom_some (x := x) names n acc (.inl h)
  cases q : (cellsFrom n names acc).lookup x with
  | none => rw [q] at this; cases this
  | some c => exact ⟨c, rfl⟩
theorem fmOk_of {env : Env} {lay : List (Str × Bool)} {glob : List Str} (hk : env.scope.kind = .function) (hg : env.globals = mainGlobals) (hb : env.builtins = builtinsNs) (h : fmCheck env.scope lay glob = true)
    (hc : ∀ p ∈ lay, p.2 = true → ∃ c, env.cells.lookup p.1 = some c) (hp : env.cells.Pairwise fun x y => x.2 ≠ y.2) : FmOk ⟨env, lay, glob⟩ := by
  unfold fmCheck at h
  simp only [Bool.and_eq_true, List.all_eq_true, beq_iff_eq, Bool.not_eq_true', decide_eq_true_eq] at h
  obtain ⟨⟨h1, h2⟩, h3⟩ := h
  refine ⟨hk, hg, hb, fun p hp => (h1 p hp).1, fun x hx => (h2 x hx).1, h3, hc, fun x y hx hy e => ?_, fun p hp => (h1 p hp).2, fun x hx => (h2 x hx).2⟩
  obtain ⟨c, ec⟩ := hc _ hx rfl
  obtain ⟨d, ed⟩ := hc _ hy rfl
  have : c = d := by
    have e' : (env.cells.lookup x).getD 0 = (env.cells.lookup y).getD 0 := e
    rw [ec, ed] at e'
    exact e'
  have := pair_unique hp (lookup_mem ec) (lookup_mem ed) this
  exact congrArg Prod.fst this
theorem fmOk_plain {fd : FuncData} {a L : Addr} {lay : List (Str × Bool)} {glob : List Str} (hk : fd.scope.kind = .function) (hg : fd.globals = mainGlobals) (hb : fd.builtins = builtinsNs) (hcl : fd.closure = []) (h : fmCheck fd.scope lay glob = true) (hn : ∀ p ∈ lay, p.2 = false) :
    FmOk ⟨callEnv fd L a, lay, glob⟩ := fmOk_of hk hg hb h (fun p hp e => by rw [hn p hp] at e; cases e) (by show List.Pairwise _ fd.closure; rw [hcl]; exact .nil)
theorem fmOk_cells {fd : FuncData} {a L : Addr} {lay : List (Str × Bool)} {glob : List Str} (hk : fd.scope.kind = .function) (hg : fd.globals = mainGlobals) (hb : fd.builtins = builtinsNs) (h : fmCheck fd.scope lay glob = true) :
    FmOk ⟨callEnvC fd L a, lay, glob⟩ := fmOk_of hk hg hb h (fun p hp e => by
      unfold fmCheck at h
      simp only [Bool.and_eq_true, List.all_eq_true, beq_iff_eq, Bool.not_eq_true', decide_eq_true_eq] at h
      have := (h.1.1 p hp).1
      rw [e] at this
      exact cells_lookup _ _ _ _ this) (cellsFrom_pairs _ _ _ .nil fun _ m => nomatch m)

theorem FnS.cells {X : Wd} {n : Nat} {a : Addr} {fd : FuncData} {body : List Stmt} {ps : List Str} {lay : List (Str × Bool)} {glob : List Str} {ds : List D} {d : D} (hX : WOk X) (hD : DefAt X a fd body ps) (hcl : fd.closure = [])
    (hF : ∀ L, FmOk ⟨callEnvC fd L a, lay, glob⟩) (hlay : ∀ (i : Nat) x b, lay[i]? = some (x, b) → i < ps.length → ps[i]? = some x) (hps : ∀ x ∈ ps, ∃ b, (x, b) ∈ lay) (hnd : ps.Nodup)
    (hlen : ds.length = ps.length)
    (h : ∀ L Wo, WS ⟨X, ⟨callEnvC fd L a, lay, glob⟩, Wo, n⟩ (sig0 ds (lay.length - ps.length)) (execs body (callEnvC fd L a)) (fun df _ => df = .ret d)) : FnS X (n + 1) (.ref a) ds d := fun A s W vs R hA B hT hW r hQ => by
  obtain ⟨o, ho, hd⟩ := hD.obj
  have hvl : vs.length = ps.length := r.length.trans hlen
  refine codeAny_call_cells (binds := ps.zip vs) hA.room (B.le _ _ ho) hd (hX.lim.keeps B.le) (hD.code.keeps B.le) hD.body (hD.bind vs hvl) hcl (fun y hy => ?_) (fun s₁ IC => ?_) hD.co hD.gen hD.kind
  · obtain ⟨b, hb⟩ := hps _ (List.of_mem_zip hy).1
    have hk := (hF s.heap.objs.size).names _ hb
    cases b with
    | false => exact .inl hk
    | true =>
      obtain ⟨c, hc⟩ := (hF s.heap.objs.size).cells _ hb rfl
      exact .inr ⟨hk, by rw [show (cellsFrom (s.heap.objs.size + 1) fd.scope.names []).lookup y.1 = some c from hc]; rfl⟩
  obtain ⟨⟨h₀, tk, es⟩, hns, hk, hfr⟩ := IC.toInCall
  let L := s.heap.objs.size
  have hL : s.heap.get? L = none := get_size
  let C : Cx := ⟨X, ⟨callEnvC fd L a, lay, glob⟩, W, n⟩
  have eh : s₁.heap = h₀ := by rw [es]
  have ex0 : Ext [X.T] s s₁ := ⟨fun a o _ e => hk a o e, fun a o e => ⟨o, hk a o e⟩, by rw [es]⟩
  have B1 : Bs X s₁ := ⟨fun a o e => hk a o (B.le a o e), let ⟨ps, e, r⟩ := B.tab; ⟨ps, hk _ _ e, r⟩, by rw [es]; exact B.bare⟩
  have cellsNew : ∀ c ∈ C.F.cellAs, s.heap.get? c = none := fun c hc => by
    obtain ⟨x, hx, rfl⟩ := cell_mem hc
    obtain ⟨c, ec⟩ := (hF L).cells _ hx rfl
    have e2 : C.F.cell x = c := by
      show ((callEnvC fd L a).cells.lookup x).getD 0 = c
      rw [ec]; rfl
    rw [e2]
    have := IC.above x c (lookup_mem ec)
    exact Heap.get?_none_of_le (Nat.le_of_lt this)
  have Wr2 : ∀ c ∈ Mine.Wr X C.F (sig0 ds (lay.length - ps.length)), c = X.T ∨ s.heap.get? c = none := fun c m => by
    unfold Mine.Wr at m
    rw [sig0_own, List.append_nil] at m
    rcases List.mem_cons.mp m with rfl | m
    · exact .inl rfl
    rcases List.mem_cons.mp m with rfl | m
    · exact .inr hL
    · exact .inr (cellsNew c m)
  have W2 : ∀ c ∈ W ++ Mine.Wr X C.F (sig0 ds (lay.length - ps.length)), c ∈ W ∨ s.heap.get? c = none := fun c m => by
    rcases List.mem_append.mp m with m | m
    · exact .inl m
    · exact (Wr2 c m).imp (fun q => by rw [q]; exact hT) id
  have O : C.Ok (sig0 ds (lay.length - ps.length)) s₁ := by
    refine ⟨B1, ⟨_, hns, fun i x b sl h1 h2 => ?_⟩, fun x hx => ?_, fun i c es e => ?_, fun c m => ?_, fun c m => ?_, by rw [sig0_own]; exact List.nodup_nil, by rw [sig0_own]; exact fun _ m => nomatch m⟩
    · obtain ⟨d', hd', rfl⟩ := sig0_get h2
      have hi : i < ps.length := hlen ▸ (List.getElem?_eq_some_iff.mp hd').1
      obtain ⟨v, hv, dv⟩ := r.get hd'
      have hm := List.mem_of_getElem? h1
      have hkd := (hF L).names _ hm
      refine ⟨v, ?_, dv.ext (fun a o _ e => hk a o e) W2⟩
      cases b with
      | false => exact bindL_get ps vs _ i x v hnd (hlay i x _ h1 hi) hv hkd
      | true =>
        obtain ⟨c, ec⟩ := (hF L).cells _ hm rfl
        have e2 : C.F.cell x = c := by
          show ((callEnvC fd L a).cells.lookup x).getD 0 = c
          rw [ec]; rfl
        show s₁.heap.IsCell (C.F.cell x) (some v)
        rw [e2, ← bindC_get (k := (callEnvC fd L a).kindOf) ps vs (fun _ => none) i x v hnd (hlay i x _ h1 hi) hv hkd]
        exact IC.cell x c ec
    · obtain ⟨c, ec⟩ := (hF L).cells _ hx rfl
      have e2 : C.F.cell x = c := by
        show ((callEnvC fd L a).cells.lookup x).getD 0 = c
        rw [ec]; rfl
      exact ⟨_, by rw [e2]; exact IC.cell x c ec⟩
    · obtain ⟨d', _, q⟩ := sig0_get e; cases q
    · rcases List.mem_append.mp m with m | m
      · exact (hW c m).1
      rcases Wr2 c m with rfl | e
      · exact hX.hid
      · cases q : X.hb.get? c with
        | none => rfl
        | some o => have := B.le _ _ q; rw [e] at this; cases this
    · obtain ⟨o, e⟩ := (hW c m).2; exact ⟨o, hk _ _ e⟩
  refine wpAny_mono ((h L W).run (A.deeper (callEnvC fd L a)) s₁ _ (hA.deeper _) O fun fl df σ' s' p O' x b f => ?_) (fun fl s' q => q) (fun e s' q => q.elim)
  subst p
  cases fl with
  | ret v =>
    refine hQ v s' ⟨fun c o n e => x.keep c o (fun m => ?_) (hk c o e), fun c o e => x.dom c o (hk c o e), x.os.trans ex0.os⟩ O'.bs f
    rcases Wr2 c m with rfl | q
    · exact n (.head _)
    · rw [q] at e; cases e
  | _ => exact f.elim
end Mine
namespace Mine
open MineP
section
variable {C : Cx} {σ : Sig} {s s' s'' : Shared} {P : DF → Sig → Prop}
noncomputable def LoopP (Inv : Nat → Sig → Prop) (n : Nat) (P : DF → Sig → Prop) (df : DF) (σ' : Sig) : Prop := match df with
  | .next => ∃ m, m < n ∧ Inv m σ'
  | .cont => ∃ m, m < n ∧ Inv m σ'
  | .brk => P .next σ'
  | .ret d => P (.ret d) σ'
theorem WS.while_ {test : Expr} {body orelse : List Stmt} {p : Pos} (Inv : Nat → Sig → Prop) (n : Nat) (h0 : Inv n σ)
    (step : ∀ n σ', Inv n σ' → ∃ c, EvT C σ' test c ∧ (c = true → WS C σ' (execs body C.env) (LoopP Inv n P)) ∧ (c = false → WS C σ' (execs orelse C.env) P)) : WS C σ (exec (.While test body orelse p) C.env) P := .mk fun A s Q hA O hQ => by
  refine wpAny_While (codeAny_whileLoop (fun n s' => ∃ σ', Inv n σ' ∧ C.Ok σ' s' ∧ Ext (C.Wr σ) s s' ∧ Sub C σ σ' s) ?_ n ⟨σ, h0, O, Ext.refl _ _, .refl⟩)
  rintro n s1 ⟨σ1, hI, O1, x1, b1⟩
  obtain ⟨c, ht, hb, ho⟩ := step n σ1 hI
  refine wpAny_mono (ht.run A s1 _ hA O1 fun b s2 x2 O2 e => ?_) (fun _ _ q => q) (fun _ _ q => q.elim)
  subst e
  have x12 : Ext (C.Wr σ) s s2 := x1.trans (x2.ofT (C := C) (σ := σ1)) b1
  cases b with
  | true =>
    rw [if_pos rfl]
    refine wpAny_mono ((hb rfl).run A s2 _ hA O2 fun fl df σ3 s3 p3 O3 x3 b3 f3 => ?_) (fun _ _ q => q) (fun _ _ q => q.elim)
    have x13 : Ext (C.Wr σ) s s3 := x12.trans x3 b1
    have b13 : Sub C σ σ3 s := b1.trans x12 b3
    cases df with
    | next => cases fl <;> first | exact f3.elim | (obtain ⟨m, hm, hi⟩ := p3; exact ⟨m, hm, σ3, hi, O3, x13, b13⟩)
    | cont => cases fl <;> first | exact f3.elim | (obtain ⟨m, hm, hi⟩ := p3; exact ⟨m, hm, σ3, hi, O3, x13, b13⟩)
    | brk => cases fl <;> first | exact f3.elim | exact hQ .next .next σ3 s3 p3 O3 x13 b13 trivial
    | ret d => cases fl <;> first | exact f3.elim | exact hQ _ _ σ3 s3 p3 O3 x13 b13 f3
  | false =>
    rw [if_neg (by decide)]
    exact wpAny_mono ((ho rfl).run A s2 _ hA O2 fun fl df σ3 s3 p3 O3 x3 b3 f3 => hQ fl df σ3 s3 p3 O3 (x12.trans x3 b1) (b1.trans x12 b3) f3) (fun _ _ q => q) (fun _ _ q => q.elim)

-- assignment to a target
noncomputable def Asg (C : Cx) (tgt : Expr) (d : D) (upd : Sig → Sig) : Prop :=
  ∀ (A : Around) (σ : Sig) (s : Shared) (v : Value) (Q : Unit → Shared → Prop), AOk C.n A → C.Ok σ s → Den (C.W σ) s.heap v d →
    (∀ s', C.Ok (upd σ) s' → Ext (C.Wr σ) s s' → Q () s') → wpAny C.X.M A (assign tgt C.env v) Q NE s
theorem Asg.name (hF : FmOk C.F) {i : Nat} {x : Str} {b : Bool} {p : Pos} {d : D} (e1 : C.F.lay[i]? = some (x, b)) : Asg C (.Name x p) d (fun σ => σ.set i (some (.val d))) := fun A σ s v Q hA O r hQ =>
  wpAny_assign_Name (store_val hF (sl := .val d) e1 rfl O r fun s' O' x => hQ s' O' x.ofLC)
noncomputable def setTo (i : Nat) (d : D) (σ : Sig) : Sig := σ.set i (some (.val d))
theorem setTo_own (i : Nat) (d : D) (σ : Sig) : ∀ a, a ∈ ownAs (setTo i d σ) → a ∈ ownAs σ := fun _ m => (ownAs_set σ i (.val d) rfl).subset m
theorem Asg.pair (hF : FmOk C.F) {i j : Nat} {x y : Str} {b c : Bool} {px py p : Pos} {k : Nat} {d e : D} (e1 : C.F.lay[i]? = some (x, b)) (e2 : C.F.lay[j]? = some (y, c)) :
    Asg C (.Tuple [.Name x px, .Name y py] k p) (.tuple [d, e]) (fun σ => setTo j e (setTo i d σ)) := fun A σ s v Q hA O r hQ => by
  cases r with
  | @tuple t vs _ n l r =>
  cases r with
  | @cons v1 _ _ _ r1 r =>
  cases r with
  | @cons v2 _ _ _ r2 r =>
  cases r
  refine wpAny_assign_Tuple hA.1 l rfl rfl fun h' hx => ?_
  have x1 : Ext [C.X.T] s { s with heap := h', toks := s.toks } := ⟨fun a o _ e => hx a o (Nat.ne_of_lt (Heap.lt_size e)) e, fun a o e => ⟨o, hx a o (Nat.ne_of_lt (Heap.lt_size e)) e⟩, rfl⟩
  have O1 : C.Ok σ { s with heap := h', toks := s.toks } := O.extT x1 ⟨fun a o e => hx a o (Nat.ne_of_lt (Heap.lt_size (O.bs.le a o e))) (O.bs.le a o e), let ⟨ps, e, r⟩ := O.bs.tab; ⟨ps, hx _ _ (Nat.ne_of_lt (Heap.lt_size e)) e, r⟩, O.bs.bare⟩
  show wpAny C.X.M A (assignInOrder [assign (.Name x px) C.env, assign (.Name y py) C.env] [v1, v2]) Q NE _
  refine wpAny_assignInOrder_more (wpAny_assign_Name (store_val hF (sl := .val d) e1 rfl O1 (r1.up x1) fun s2 O2 x2 => ?_))
  have r2' : Den (C.W (setTo i d σ)) s2.heap v2 e := (r2.up x1).ext (fun a o n e => x2.keep a o (fun m => n (List.mem_append_right _ (.tail _ (by
    rcases List.mem_cons.mp m with rfl | m
    · exact .head _
    · exact .tail _ (List.mem_append_left _ m))))) e) fun a m => .inl (W_sub (setTo_own i d σ) a m)
  refine wpAny_assignInOrder_more (wpAny_assign_Name (store_val hF (sl := .val e) e2 rfl O2 r2' fun s3 O3 x3 => ?_))
  exact wpAny_assignInOrder_none (hQ s3 O3 ((x1.ofT.trans' x2.ofLC).trans' x3.ofLC))

/-- an iterator at work: what it stands on (fp), what it writes (wr) -/
structure ItP (C : Cx) (σ₀ : Sig) (s₀ : Shared) (tgt : Expr) (it : Value) (N : Nat) (upd : Nat → Sig → Sig) (Nx : Nat → Shared → Prop) (fp wr : List Addr) : Prop where
  frame : ∀ i s s', Nx i s → (∀ a ∈ fp, ∀ o, s.heap.get? a = some o → s'.heap.get? a = some o) → Nx i s'
  item : ∀ (A : Around) (i : Nat) (σ' : Sig) (s : Shared) (Q : Unit → Shared → Prop), AOk C.n A → i < N → C.Ok σ' s → Sub C σ₀ σ' s₀ → Ext (wr ++ C.Wr σ₀) s₀ s → (∀ a ∈ fp, a ∉ C.Wr σ') → Nx i s →
    (∀ s', C.Ok (upd i σ') s' → Nx (i + 1) s' → Ext (wr ++ C.Wr σ') s s' → Q () s') →
    wpAny C.X.M A (pyNext it) (fun r s₁ => ∃ v, r = some v ∧ wpAny C.X.M A (letOwnedTupleGo tgt it v) (fun _ s₁' => wpAny C.X.M A (assign tgt C.env v) Q NE s₁') NE s₁) NE s
  done : ∀ (A : Around) (σ' : Sig) (s : Shared) (Q : Option Value → Shared → Prop), AOk C.n A → C.Ok σ' s → (∀ a ∈ fp, a ∉ C.Wr σ') → Nx N s → (∀ s', C.Ok σ' s' → (∀ a o, a ∉ wr → s.heap.get? a = some o → s'.heap.get? a = some o) → s'.os = s.os → Q none s') → wpAny C.X.M A (pyNext it) Q NE s
  own : ∀ i σ', ∀ a, a ∈ ownAs (upd i σ') → a ∈ ownAs σ'
noncomputable def EvIt (C : Cx) (σ : Sig) (iter tgt : Expr) (N : Nat) (upd : Nat → Sig → Sig) : Prop :=
  ∀ (A : Around) (s : Shared) (Q : Value → Shared → Prop), AOk C.n A → C.Ok σ s →
    (∀ it s' (Nx : Nat → Shared → Prop) (fp wr : List Addr), Ext [C.X.T] s s' → C.Ok σ s' → ItP C σ s' tgt it N upd Nx fp wr → Nx 0 s' → (∀ a ∈ fp, a ∉ C.W σ ∧ ∃ o, s'.heap.get? a = some o) → (∀ a ∈ wr, a ∈ fp ∧ s.heap.get? a = none) → Q it s') →
    wpAny C.X.M A (eval iter C.env) (fun x s1 => wpAny C.X.M A (pyIter x) Q NE s1) NE s

noncomputable def ForP (Inv : Nat → Sig → Prop) (i : Nat) (P : DF → Sig → Prop) (df : DF) (σ' : Sig) : Prop := match df with
  | .next => Inv (i + 1) σ'
  | .cont => Inv (i + 1) σ'
  | .brk => P .next σ'
  | .ret d => P (.ret d) σ'
theorem WS.for_ {tgt iter : Expr} {body orelse : List Stmt} {p : Pos} {N : Nat} {upd : Nat → Sig → Sig} (Inv : Nat → Sig → Prop) (hI : EvIt C σ iter tgt N upd) (h0 : Inv 0 σ)
    (step : ∀ i σ', i < N → Inv i σ' → WS C (upd i σ') (execs body C.env) (ForP Inv i P)) (done : ∀ σ', Inv N σ' → WS C σ' (execs orelse C.env) P) (hs : ∀ x, foldedSetIterable iter C.env x = pure x := by intro _; rfl) :
    WS C σ (exec (.For tgt iter body orelse p) C.env) P := .mk fun A s Q hA O hQ => by
  refine wpAny_For (hI A s _ hA O fun it s0 Nx fp wr x0 O0 ip n0 hfp hwr => ?_) hs
  have hwrN : ∀ a ∈ wr, s.heap.get? a = none := fun a m => (hwr a m).2
  have toS : ∀ {s'}, Ext (wr ++ C.Wr σ) s0 s' → Ext (C.Wr σ) s s' := fun x => (x0.ofT (C := C) (σ := σ)).trans x fun a m => (List.mem_append.mp m).elim (fun q => .inr (hwrN a q)) .inl
  have off : ∀ {σ'}, Sub C σ σ' s0 → ∀ a ∈ fp, a ∉ C.Wr σ' := fun b a m q => (b a q).elim (fun z => (hfp a m).1 (List.mem_append_right _ z)) fun z => by obtain ⟨o, e⟩ := (hfp a m).2; rw [z] at e; cases e
  refine codeAny_forLoop_any (fun k s' => ∃ i σ', k = N + 1 - i ∧ i ≤ N ∧ Inv i σ' ∧ C.Ok σ' s' ∧ Nx i s' ∧ Ext (wr ++ C.Wr σ) s0 s' ∧ Sub C σ σ' s0) ?_ (N + 1) ⟨0, σ, rfl, Nat.zero_le _, h0, O0, n0, Ext.refl _ _, .refl⟩
  rintro k s1 ⟨i, σ1, rfl, hi, hInv, O1, n1, x1, b1⟩
  by_cases hlt : i < N
  · let BQ : Unit → Shared → Prop := fun _ s2 => wpAny C.X.M A (execs body C.env) (fun f s₃ => match f with
            | .next => ∃ m, m < N + 1 - i ∧ ∃ i σ', m = N + 1 - i ∧ i ≤ N ∧ Inv i σ' ∧ C.Ok σ' s₃ ∧ Nx i s₃ ∧ Ext (wr ++ C.Wr σ) s0 s₃ ∧ Sub C σ σ' s0
            | .cont => ∃ m, m < N + 1 - i ∧ ∃ i σ', m = N + 1 - i ∧ i ≤ N ∧ Inv i σ' ∧ C.Ok σ' s₃ ∧ Nx i s₃ ∧ Ext (wr ++ C.Wr σ) s0 s₃ ∧ Sub C σ σ' s0
            | .brk => Q .next s₃
            | .ret v => Q (.ret v) s₃) NE s2
    have key := ip.item A i σ1 s1 BQ hA hlt O1 b1 x1 (off b1) n1 fun s2 O2 n2 x2 => ?_
    · refine wpAny_mono key (fun r s2 q => ?_) (fun _ _ q => q.elim)
      obtain ⟨v, rfl, q⟩ := q
      exact wpAny_mono q (fun _ s3 q3 => wpAny_mono q3 (fun _ s4 q4 => wpAny_mono q4 (fun f s5 q5 => by cases f <;> exact q5) fun _ _ q => q.elim) fun _ _ q => q.elim) fun _ _ q => q.elim
    · have b2 : Sub C σ (upd i σ1) s0 := fun a m => b1 a (Wr_sub (ip.own i σ1) a m)
      have x12 : Ext (wr ++ C.Wr σ) s0 s2 := x1.trans x2 fun a m => by
        rcases List.mem_append.mp m with m | m
        · exact .inl (List.mem_append_left _ m)
        · exact (b1 a m).imp (List.mem_append_right _) id
      refine wpAny_mono ((step i _ hlt hInv).run A s2 _ hA O2 fun fl df σ3 s3 p3 O3 x3 b3 f3 => ?_) (fun _ _ q => q) (fun _ _ q => q.elim)
      have x13 : Ext (wr ++ C.Wr σ) s0 s3 := x12.trans x3 fun a m => (b2 a m).imp (List.mem_append_right _) id
      have b13 : Sub C σ σ3 s0 := b2.trans x12 b3
      have n3 : Nx (i + 1) s3 := ip.frame _ _ _ n2 fun a m o e => x3.keep a o (off b2 a m) e
      have bS : Sub C σ σ3 s := fun a m => (b13 a m).imp id fun e => x0.none e
      cases df with
      | next => cases fl <;> first | exact f3.elim | exact ⟨N + 1 - (i + 1), by omega, i + 1, σ3, rfl, hlt, p3, O3, n3, x13, b13⟩
      | cont => cases fl <;> first | exact f3.elim | exact ⟨N + 1 - (i + 1), by omega, i + 1, σ3, rfl, hlt, p3, O3, n3, x13, b13⟩
      | brk => cases fl <;> first | exact f3.elim | exact hQ .next .next σ3 s3 p3 O3 (toS x13) bS trivial
      | ret d => cases fl <;> first | exact f3.elim | exact hQ _ _ σ3 s3 p3 O3 (toS x13) bS f3
  · have hN : i = N := by omega
    subst hN
    refine wpAny_mono (ip.done A σ1 s1 (fun r s2 => r = none ∧ C.Ok σ1 s2 ∧ (∀ a o, a ∉ wr → s1.heap.get? a = some o → s2.heap.get? a = some o) ∧ s2.os = s1.os) hA O1 (off b1) n1 fun s2 O2 k2 o2 => ⟨rfl, O2, k2, o2⟩) (fun r s2 ⟨e, O2, k2, o2⟩ => ?_) (fun _ _ q => q.elim)
    subst e
    have x1S : Ext (C.Wr σ) s s1 := toS x1
    have b1S : Sub C σ σ1 s := fun a m => (b1 a m).imp id fun e => x0.none e
    have x2S : Ext (C.Wr σ) s s2 := ⟨fun a o n e => k2 a o (fun m => by rw [hwrN a m] at e; cases e) (x1S.keep a o n e), fun a o e => let ⟨o', e'⟩ := x1S.dom a o e; ⟨o', k2 a o' (fun m => by rw [hwrN a m] at e; cases e) e'⟩, o2.trans x1S.os⟩
    refine wpAny_mono ((done σ1 hInv).run A s2 _ hA O2 fun fl df σ3 s3 p3 O3 x3 b3 f3 => ?_) (fun _ _ q => q) (fun _ _ q => q.elim)
    exact hQ fl df σ3 s3 p3 O3 (x2S.trans x3 b1S) (b1S.trans x2S b3) f3
end
end Mine
namespace Mine
open MineP
/-- an iterator's object, none of those whose tuples are let go -/
noncomputable def Quiet1 (o : Obj) : Prop := Inert o ∧ ∃ n, o.cls = .type n ∧ ["enumerate", "zip", "dict_itemiterator", "dict_reverseitemiterator", "odict_iterator", "itertools.zip_longest", "itertools.pairwise"].contains n = false
/-- an iterable of data, told by the library's walks -/
structure ItOk (C : Cx) (σ : Sig) (s s' : Shared) (I : Addr) (fp wr : List Addr) (N : Nat) (f : Nat → D) (Pv : Nat → Value → Prop) (St : Nat → Heap → Prop) : Prop where
  walks : ∀ A' : Around, A'.handled = none → Walks C.X.prog C.X.w A' I fp wr N Pv St
  st : St 0 s'.heap
  fpOk : ∀ a ∈ fp, a ∉ C.W σ ∧ ∃ o, s'.heap.get? a = some o
  wrOk : ∀ a ∈ wr, a ∈ fp ∧ s.heap.get? a = none
  self : I ∈ wr
  live : ∀ i h, St i h → ∀ b ∈ wr, ∃ o, h.get? b = some o ∧ Quiet1 o
  den : ∀ i v, Pv i v → i < N → Den (wr ++ C.W σ) s'.heap v (f i)
noncomputable def ItW (C : Cx) (σ : Sig) (iter : Expr) (N : Nat) (f : Nat → D) : Prop :=
  ∀ (A : Around) (s : Shared) (Q : Value → Shared → Prop), AOk C.n A → C.Ok σ s →
    (∀ I s' fp wr Pv St, Ext [C.X.T] s s' → C.Ok σ s' → ItOk C σ s s' I fp wr N f Pv St → Q (.ref I) s') → wpAny C.X.M A (eval iter C.env) (fun x s1 => wpAny C.X.M A (pyIter x) Q NE s1) NE s
section
variable {C : Cx} {σ : Sig} {s s' s'' : Shared} {P : DF → Sig → Prop}
theorem letOwned_quiet {A : Around} {tgt : Expr} {r : Addr} {v : Value} {o : Obj} {Q : Unit → Shared → Prop} (e : s.heap.get? r = some o) (q : Quiet1 o) (h : Q () s) : wpAny C.X.M A (letOwnedTupleGo tgt (.ref r) v) Q NE s := by
  obtain ⟨⟨⟨vs, hd⟩, _⟩, n, hc, hn⟩ := q
  have go : wpAny C.X.M A (do
      let (.ref r, .ref a) := (Value.ref r, v) | return
      let o ← load r
      match o.cls, o.data with
      | .type n, .fields vs =>
        if ["enumerate", "zip", "dict_itemiterator", "dict_reverseitemiterator", "odict_iterator", "itertools.zip_longest", "itertools.pairwise"].contains n && vs[0]? == some (rawInt a) then
          rule "for.unpacks-the-owned-tuple"
          updateField r 0 .none
      | _, _ => pure () : Sem Unit) Q NE s := by
    cases v with
    | ref a =>
      refine wpAny_bind (wpAny_load e ?_)
      rw [hc, hd]
      dsimp only
      rw [hn, Bool.false_and, if_neg (by decide)]
      exact wpAny_pure h
    | _ => exact wpAny_pure h
  unfold letOwnedTupleGo
  split
  · exact go
  · exact go
  · exact wpAny_pure h
theorem Bs.keepOff {X : Wd} {wr : List Addr} {s s' : Shared} (b : Bs X s) (x : Ext wr s s') (h1 : ∀ a ∈ wr, X.hb.get? a = none) (h2 : X.T ∉ wr) (hg : s'.gens = s.gens) : Bs X s' :=
  ⟨fun a o e => x.keep a o (fun m => by have := h1 a m; rw [e] at this; cases this) (b.le a o e), let ⟨ps, e, r⟩ := b.tab; ⟨ps, x.keep _ _ h2 e, r⟩, by rw [hg]; exact b.bare⟩
theorem EvIt.walk {iter tgt : Expr} {N : Nat} {f : Nat → D} {upd : Nat → Sig → Sig} (h : ItW C σ iter N f) (ha : ∀ i, i < N → Asg C tgt (f i) (upd i)) (ho : ∀ i σ', ∀ a, a ∈ ownAs (upd i σ') → a ∈ ownAs σ') : EvIt C σ iter tgt N upd := fun A s Q hA O hQ =>
  h A s Q hA O fun I s0 fp wr Pv St x0 O0 K => by
    have wrHb : ∀ a ∈ wr, C.X.hb.get? a = none := fun a m => by
      cases q : C.X.hb.get? a with
      | none => rfl
      | some o => have := O.bs.le a o q; rw [(K.wrOk a m).2] at this; cases this
    have wrT : C.X.T ∉ wr := fun m => (K.fpOk _ (K.wrOk _ m).1).1 mem_T
    -- a step of the iterator
    have stp : ∀ {i : Nat} {σ' : Sig} {s1 : Shared} {h' : Heap} {tk : Nat}, C.Ok σ' s1 → St i s1.heap → (∀ b ∈ wr, ∃ o, h'.get? b = some o) → (∀ b o, b ∉ wr → s1.heap.get? b = some o → h'.get? b = some o) →
        C.Ok σ' { s1 with heap := h', toks := tk } ∧ Ext wr s1 { s1 with heap := h', toks := tk } := by
      intro i σ' s1 h' tk O1 st hl hk
      have x : Ext wr s1 { s1 with heap := h', toks := tk } := ⟨fun b o n e => hk b o n e, fun b o e => by
        by_cases m : b ∈ wr
        · exact hl b m
        · exact ⟨o, hk b o m e⟩, rfl⟩
      exact ⟨O1.ext x (fun b m o e => by obtain ⟨o', e', q⟩ := K.live _ _ st b m; rw [e] at e'; cases e'; exact q.1) (O1.bs.keepOff x wrHb wrT rfl), x⟩
    refine hQ (.ref I) s0 (fun i s => St i s.heap) fp wr x0 O0 ⟨fun i s1 s2 st k => (K.walks { handled := none } rfl).frame i _ _ st k, ?_, ?_, ho⟩ K.st K.fpOk K.wrOk
    · intro A' i σ' s1 Q' hA' hi O1 b1 x1 off st hQ'
      refine (K.walks A' hA'.1).item i s1 _ NE hi st fun v h' tk hPv st' hk => ⟨v, rfl, ?_⟩
      obtain ⟨O2, x2⟩ := stp O1 st (fun b m => let ⟨o, e, _⟩ := K.live _ _ st' b m; ⟨o, e⟩) hk
      obtain ⟨oI, eI, qI⟩ := K.live _ _ st' I K.self
      refine letOwned_quiet eI qI ?_
      have dv : Den (C.W σ') h' v (f i) := by
        refine (K.den i v hPv hi).ext (fun a o n e => hk a o (fun m => n (List.mem_append_left _ m)) (x1.keep a o (fun m => ?_) e)) fun a m => ?_
        · rcases List.mem_append.mp m with m | m
          · exact n (List.mem_append_left _ m)
          · exact n (List.mem_append_right _ (List.mem_append_right _ m))
        · rcases List.mem_append.mp m with m | m
          · exact .inl (List.mem_append_right _ (List.mem_append_left _ m))
          · exact (b1 a m).imp (fun q => List.mem_append_right _ (List.mem_append_right _ q)) id
      refine ha i hi A' σ' _ v Q' hA' O2 dv fun s3 O3 x3 => hQ' s3 O3 ?_ ?_
      · exact (K.walks A' hA'.1).frame _ _ _ st' fun b m o e => x3.keep b o (off b m) e
      · exact (x2.sub fun a m => List.mem_append_left _ m).trans' (x3.sub fun a m => List.mem_append_right _ m)
    · intro A' σ' s1 Q' hA' O1 off st hQ'
      refine (K.walks A' hA'.1).done s1 _ NE st fun h' tk hk => ?_
      refine hQ' _ (O1.keepOff (W' := wr) (fun b o n e => hk b o n e) (fun b m o e => by obtain ⟨o', e', q⟩ := K.live _ _ st b m; rw [e] at e'; cases e'; exact q.1) (fun b m n => (K.fpOk _ (K.wrOk _ n).1).1 (List.mem_append_left _ m)) ?_) (fun b o n e => hk b o n e) rfl
      exact ⟨fun b o e => hk b o (fun m => by have := wrHb b m; rw [e] at this; cases this) (O1.bs.le b o e), let ⟨ps, e, r⟩ := O1.bs.tab; ⟨ps, hk _ _ wrT e, r⟩, O1.bs.bare⟩
theorem ItW.list {iter : Expr} {ds : List D} (h : EvE C σ iter (.list ds)) : ItW C σ iter ds.length (fun i => (ds[i]?).getD .none) := fun A s Q hA O hQ =>
  h.run A s _ hA O fun v s1 x1 O1 r => by
    cases r with
    | @list a vs _ n l r =>
    refine wpAny_pyIter_list l ?_
    have hne : a ≠ s1.heap.objs.size := by obtain ⟨o, e, _⟩ := l; exact Nat.ne_of_lt (Heap.lt_size e)
    have hlen : vs.toArray.size = ds.length := by simp [r.length]
    refine hQ s1.heap.objs.size { s1 with heap := s1.heap.push _, toks := s1.toks } [s1.heap.objs.size, a] [s1.heap.objs.size] _ _ (x1.trans' Ext.push) O1.push ⟨fun A' hA' => hlen ▸ Walks.list hA' s1.heap.objs.size a hne vs.toArray, ⟨⟨_, Heap.get?_push_size _ rfl, rfl, rfl⟩, l.push _⟩, fun b m => ?_, fun b m => ?_, .head _, fun i h st b m => ?_, fun i v hv hi => ?_⟩
    · rcases List.mem_cons.mp m with rfl | m
      · exact ⟨O1.off get_size, _, Heap.get?_push_size _ rfl⟩
      · rw [List.mem_singleton.mp m]
        obtain ⟨o, e, _⟩ := l
        exact ⟨n, o, Heap.get?_push_of_some _ e⟩
    · rw [List.mem_singleton.mp m]; exact ⟨.head _, x1.none get_size⟩
    · rw [List.mem_singleton.mp m]
      obtain ⟨o, e, c, d⟩ := st.1
      exact ⟨o, e, ⟨⟨_, d⟩, by rw [c]; decide⟩, _, c, by decide⟩
    · have hv' : vs[i]? = some v := by simpa using hv
      have hd : ds[i]? = some ds[i] := by simp [hi]
      obtain ⟨v', e', dv⟩ := r.get hd
      rw [hv'] at e'; cases e'
      rw [hd]
      exact dv.ext (fun a o _ e => Heap.get?_push_of_some _ e) fun a m => (List.mem_append.mp m).elim (fun q => .inr (by rw [List.mem_singleton.mp q]; exact get_size)) .inl
end
end Mine
namespace Mine
open MineP
section
variable {C : Cx} {σ : Sig} {s s' s'' : Shared} {P : DF → Sig → Prop}
theorem ItW.tuple {iter : Expr} {ds : List D} (h : EvE C σ iter (.tuple ds)) : ItW C σ iter ds.length (fun i => (ds[i]?).getD .none) := fun A s Q hA O hQ =>
  h.run A s _ hA O fun v s1 x1 O1 r => by
    cases r with
    | @tuple a vs _ n l r =>
    refine wpAny_pyIter_tuple l ?_
    have hne : a ≠ s1.heap.objs.size := by obtain ⟨o, e, _⟩ := l; exact Nat.ne_of_lt (Heap.lt_size e)
    have hlen : vs.toArray.size = ds.length := by simp [r.length]
    refine hQ s1.heap.objs.size { s1 with heap := s1.heap.push _, toks := s1.toks } [s1.heap.objs.size, a] [s1.heap.objs.size] _ _ (x1.trans' Ext.push) O1.push ⟨fun A' hA' => hlen ▸ Walks.tuple hA' s1.heap.objs.size a hne vs.toArray, ⟨⟨_, Heap.get?_push_size _ rfl, rfl, rfl⟩, l.push _⟩, fun b m => ?_, fun b m => ?_, .head _, fun i h st b m => ?_, fun i v hv hi => ?_⟩
    · rcases List.mem_cons.mp m with rfl | m
      · exact ⟨O1.off get_size, _, Heap.get?_push_size _ rfl⟩
      · rw [List.mem_singleton.mp m]
        obtain ⟨o, e, _⟩ := l
        exact ⟨n, o, Heap.get?_push_of_some _ e⟩
    · rw [List.mem_singleton.mp m]; exact ⟨.head _, x1.none get_size⟩
    · rw [List.mem_singleton.mp m]
      obtain ⟨o, e, c, d⟩ := st.1
      exact ⟨o, e, ⟨⟨_, d⟩, by rw [c]; decide⟩, _, c, by decide⟩
    · have hv' : vs[i]? = some v := by simpa using hv
      have hd : ds[i]? = some ds[i] := by simp [hi]
      obtain ⟨v', e', dv⟩ := r.get hd
      rw [hv'] at e'; cases e'
      rw [hd]
      exact dv.ext (fun a o _ e => Heap.get?_push_of_some _ e) fun a m => (List.mem_append.mp m).elim (fun q => .inr (by rw [List.mem_singleton.mp q]; exact get_size)) .inl
/-- an expression that makes a range -/
noncomputable def EvR (C : Cx) (σ : Sig) (e : Expr) (a b c : Int) : Prop := Run C σ (eval e C.env) fun _ v s' => ∃ r t u w, v = .ref r ∧ IsRange s'.heap r a b c t u w
theorem ItW.range {iter : Expr} {a b c : Int} {N : Nat} (h : EvR C σ iter a b c) (hs : Builtin.Range.small a b c = true) (hN : Builtin.Range.rangeSize a b c = (N : Int)) : ItW C σ iter N (fun i => .int (a + i * c)) := fun A s Q hA O hQ =>
  h A s _ hA O fun v s1 x1 O1 ⟨r, t, u, w, e, l⟩ => by
    subst e
    refine wpAny_pyIter_range l hs ?_
    rw [hN]
    refine hQ s1.heap.objs.size { s1 with heap := s1.heap.push _, toks := s1.toks } [s1.heap.objs.size] [s1.heap.objs.size] _ _ (x1.trans' Ext.push) O1.push ⟨fun A' hA' => Walks.range hA' s1.heap.objs.size a c N, by
      show IsRangeIter _ _ _ _ _
      have e1 : a + ((0 : Nat) : Int) * c = a := by simp
      have e2 : (N : Int) - ((0 : Nat) : Int) = N := by simp
      rw [e1, e2]
      exact Heap.get?_push_size _ rfl, fun b m => ?_, fun b m => ?_, .head _, fun i h st b m => ?_, fun i v hv hi => ?_⟩
    · rw [List.mem_singleton.mp m]; exact ⟨O1.off get_size, _, Heap.get?_push_size _ rfl⟩
    · rw [List.mem_singleton.mp m]; exact ⟨.head _, x1.none get_size⟩
    · rw [List.mem_singleton.mp m]
      exact ⟨_, st, ⟨⟨_, rfl⟩, fun e => by injection e with e; exact absurd e (by decide)⟩, _, rfl, by decide⟩
    · obtain ⟨t, rfl⟩ := hv; exact .int _ _
-- a call whose answer is told by any word
theorem callV_run {x : Str} {np p : Pos} {args : List Expr} {f : Value} {ds : List D} {R : Shared → Value → Shared → Prop} (hf : EvV C σ (.Name x np) f) (hc : Calm C.X f) (ha : EvEs C σ args ds)
    (ho : ∀ (A : Around) (s : Shared) (Q : Value → Shared → Prop) (vs : List Value), AOk C.n A → C.Ok σ s → Dens (C.W σ) s.heap vs ds → (∀ v s', Ext [C.X.T] s s' → C.Ok σ s' → R s v s' → Q v s') → wpAny C.X.M A (call f vs) Q NE s)
    (hR : ∀ s s1 v s', Ext [C.X.T] s s1 → R s1 v s' → R s v s') : Run C σ (eval (.Call (.Name x np) args [] p) C.env) R := fun A s Q hA O hQ =>
  wpAny_Call_NameR (hf.run A s _ hA O fun f' s1 x1 O1 e => by
    subst e
    refine callWith_of (P := fun hp => ∀ a o, C.X.hb.get? a = some o → hp.get? a = some o) (by rw [ha.plain]; rfl) (hc.looks) ?_
    have fin : ∀ vs s', Dens (C.W σ) s'.heap vs ds → C.Ok σ s' → Ext [C.X.T] s1 s' → (∀ a o, C.X.hb.get? a = some o → s'.heap.get? a = some o) ∧ wpAny C.X.M A (call f' ([] ++ vs) []) Q NE s' := fun vs s' r O' x =>
      ⟨O'.bs.le, by rw [List.nil_append]; exact ho A s' Q vs hA O' r fun v s'' x' O'' r' => hQ v s'' ((x1.trans' x).trans' x') O'' (hR _ _ _ _ (x1.trans' x) r')⟩
    have body : wpAny C.X.M A (spliced (backTo p (starEach args C.env))) (fun vs s' => (∀ a o, C.X.hb.get? a = some o → s'.heap.get? a = some o) ∧ wpAny C.X.M A (call f' ([] ++ vs) []) Q NE s') NE s1 := ha.run A s1 _ hA O1 fun vs s' x O' r => fin vs s' r O' x
    cases ha with
    | nil => exact evalArgs_nil3 (fin [] s1 .nil O1 (Ext.refl _ _))
    | cons h1 h2 hs =>
      rw [hs] at body ⊢
      exact evalArgs_plain body)
end
end Mine
namespace Mine
open MineP
section
variable {X : Wd} {F : Fm} {Wo : List Addr} {σ : Sig} {s s' : Shared}
theorem Ok.growOff {bs W' : List Addr} (O : Ok X F Wo σ s) (k : ∀ a o, a ∉ W' → s.heap.get? a = some o → s'.heap.get? a = some o) (hW : ∀ a ∈ W', ∀ o, s.heap.get? a = some o → Inert o) (hWo : ∀ a ∈ Wo, ∃ o, s'.heap.get? a = some o)
    (hbs : ∀ b ∈ bs, s.heap.get? b = none ∧ ∃ o, s'.heap.get? b = some o) (b : Bs X s') : Ok X F (bs ++ Wo) σ s' := by
  have k' : ∀ a o, s.heap.get? a = some o → ¬ Inert o → s'.heap.get? a = some o := fun a o e n => k a o (fun m => n (hW a m o e)) e
  refine ⟨b, O.vars.ext k' fun a m => ?_, fun y hy => let ⟨v, q⟩ := O.cells y hy; ⟨v, isCell_up k' q⟩, fun i a ds e => let ⟨its, q⟩ := O.lists i a ds e; ⟨its, plain_up k' q⟩, fun a m => ?_, fun a m => ?_, O.owns, fun a m n => ?_⟩
  · rw [List.append_assoc] at m
    rcases List.mem_append.mp m with m | m
    · exact .inr (hbs a m).1
    · exact .inl m
  · rw [List.append_assoc] at m
    rcases List.mem_append.mp m with m | m
    · cases q : X.hb.get? a with
      | none => rfl
      | some o => have := O.bs.le a o q; rw [(hbs a m).1] at this; cases this
    · exact O.fresh a m
  · rcases List.mem_append.mp m with m | m
    · exact (hbs a m).2
    · exact hWo a m
  · rcases List.mem_append.mp n with n | n
    · obtain ⟨i, ds, e⟩ := own_mem m
      obtain ⟨its, c, e⟩ := O.lists i a ds e
      rw [(hbs a n).1] at e; cases e
    · exact O.ownOut a m n
theorem Ok.less {Wo' : List Addr} (O : Ok X F Wo σ s) (h : ∀ a ∈ Wo', a ∈ Wo) : Ok X F Wo' σ s := by
  have hs : ∀ a, a ∈ Wo' ++ Wr X F σ → a ∈ Wo ++ Wr X F σ := fun a m => (List.mem_append.mp m).elim (fun q => List.mem_append_left _ (h a q)) (List.mem_append_right _)
  exact ⟨O.bs, O.vars.ext (fun _ _ e _ => e) fun a m => .inl (hs a m), O.cells, O.lists, fun a m => O.fresh a (hs a m), fun a m => O.there a (h a m), O.owns, fun a m n => O.ownOut a m (h a n)⟩
theorem Ok.writeWo {b : Addr} (O : Ok X F Wo σ s) (hb : b ∈ Wo) (h1 : X.T ≠ b) (h2 : F.env.locals ≠ b) (h3 : b ∉ F.cellAs) (h4 : ∀ (j : Nat) a ds, σ[j]? = some (some (.ro a ds)) → a ≠ b)
    (k : ∀ a o, a ≠ b → s.heap.get? a = some o → s'.heap.get? a = some o) (hx : ∃ o, s'.heap.get? b = some o) (hg : s'.gens = s.gens) : Ok X F Wo σ s' := by
  have kW : ∀ a o, a ∉ Wo ++ Wr X F σ → s.heap.get? a = some o → s'.heap.get? a = some o := fun a o n e => k a o (fun q => n (q ▸ List.mem_append_left _ hb)) e
  have hbo : ∀ a ∈ ownAs σ, a ≠ b := fun a m q => O.ownOut a m (q ▸ hb)
  obtain ⟨m, ⟨o, es, ep, e, d, r⟩, hv⟩ := O.vars
  refine ⟨⟨fun a o e => kW a o (fun m => by have := O.fresh a m; rw [e] at this; cases this) (O.bs.le a o e), let ⟨ps, e, r⟩ := O.bs.tab; ⟨ps, k _ _ h1 e, r⟩, by rw [hg]; exact O.bs.bare⟩,
    ⟨m, ⟨o, es, ep, k _ _ h2 e, d, r⟩, fun i y c sl e1 e2 => ?_⟩, fun y hy => ?_, fun i a ds e => ?_, O.fresh, fun a m => ?_, O.owns, O.ownOut⟩
  · obtain ⟨v, hh, hs⟩ := hv i y c sl e1 e2
    refine ⟨v, ?_, ?_⟩
    · cases c with
      | false => exact hh
      | true => obtain ⟨o, e, d⟩ := hh; exact ⟨o, k _ _ (fun q => h3 (q ▸ mem_cell (List.mem_of_getElem? e1))) e, d⟩
    · cases sl with
      | val d => exact hs.ext kW fun _ m => .inl m
      | own a ds => obtain ⟨ev, vs, ⟨n, p⟩, r⟩ := hs; exact ⟨ev, vs, ⟨n, k _ _ (hbo a (mem_own e2)) p⟩, r.ext kW fun _ m => .inl m⟩
      | app a => obtain ⟨q, ev, n, g⟩ := hs; exact ⟨q, ev, n, kW _ _ n g⟩
      | ro a ds => obtain ⟨ev, vs, ⟨o, l, c⟩, r⟩ := hs; exact ⟨ev, vs, ⟨o, k _ _ (h4 i a ds e2) l, c⟩, r.ext kW fun _ m => .inl m⟩
  · obtain ⟨v, o, e, d⟩ := O.cells y hy
    exact ⟨v, o, k _ _ (fun q => h3 (q ▸ mem_cell hy)) e, d⟩
  · obtain ⟨its, n, p⟩ := O.lists i a ds e
    exact ⟨its, n, k _ _ (hbo a (mem_own e)) p⟩
  · obtain ⟨o, e⟩ := O.there a m
    by_cases q : a = b
    · subst q; exact hx
    · exact ⟨o, k _ _ q e⟩
end

/-- what a comprehension sees of the frame: its cells -/
inductive Down : Slot → Slot → Prop
  | val (d : D) : Down (.val d) (.val d)
  | own (a : Addr) (ds : List D) : Down (.own a ds) (.ro a ds)
  | ro (a : Addr) (ds : List D) : Down (.ro a ds) (.ro a ds)
noncomputable def noOwnB (σ : Sig) : Bool := σ.all fun x => match x with
  | some (.own _ _) => false
  | _ => true
structure CompF (C : Cx) (σ : Sig) (scope : Scope) (cl : List (Str × Addr)) (x : Str) (layc : List (Str × Bool)) (globc : List Str) (σc : Sig) : Prop where
  clos : closureFor scope C.env = pure cl
  nocell : ∀ y ∈ scope.names, y.2 ≠ .cell
  kind : scope.kind = .function
  names : ∀ y ∈ scope.names, y.2 = .local → scope.names.lookup y.1 = some .local
  ok : ∀ L, FmOk ⟨compEnvC scope cl L C.env, (x, false) :: layc, globc⟩
  cells : ∀ p ∈ layc, p.2 = true ∧ p ∈ C.F.lay ∧ cl.lookup p.1 = C.env.cells.lookup p.1
  slots : ∀ (j : Nat) y sl, layc[j]? = some (y, true) → σc[j]? = some (some sl) → ∃ (i : Nat) (sl₀ : Slot), C.F.lay[i]? = some (y, true) ∧ σ[i]? = some (some sl₀) ∧ Down sl₀ sl
  noOwn : noOwnB σc = true
  len : σc.length ≤ layc.length
/-- the comprehension's own context, its names' place and its list's -/
noncomputable def Cx.comp (C : Cx) (σ : Sig) (scope : Scope) (cl : List (Str × Addr)) (x : Str) (layc : List (Str × Bool)) (globc : List Str) (L Dl : Addr) : Cx :=
  ⟨C.X, ⟨compEnvC scope cl L C.env, (x, false) :: layc, globc⟩, Dl :: C.W σ, C.n⟩
noncomputable def TestsOk (C : Cx) (σ : Sig) (ifs : List Expr) (b : Bool) : Prop :=
  Run C σ (forIn ifs true fun c r => if r = true then do let ok ← isTrue c C.env (eval c C.env); pure (ForInStep.yield ok) else pure (ForInStep.yield r)) fun _ ok _ => ok = b
theorem TestsOk.nil {C : Cx} {σ : Sig} : TestsOk C σ [] true := fun A s Q hA O hQ => wpAny_tests_nil (hQ true s (Ext.refl _ _) O rfl)
theorem TestsOk.one {C : Cx} {σ : Sig} {c : Expr} {b : Bool} (h : EvT C σ c b) : TestsOk C σ [c] b := fun A s Q hA O hQ => wpAny_tests_one (h.run A s Q hA O hQ)

/-- behind a comprehension's loop -/
structure CompDone (C : Cx) (σ : Sig) (s s5 : Shared) (L Dl : Addr) (ds : List D) : Prop where
  ok : Mine.Ok C.X C.F ([Dl, L] ++ C.Wo) σ s5
  ns : ∃ m, s5.heap.Ns L m
  list : ∃ ws : List Value, s5.heap.PlainList Dl ws.toArray ∧ Dens (Dl :: L :: C.W σ) s5.heap ws ds
  ext : Ext [C.X.T] s s5
  new : s.heap.get? Dl = none ∧ s.heap.get? L = none
  ne : Dl ≠ L

section
variable {C : Cx} {σ : Sig} {s s' s'' : Shared} {P : DF → Sig → Prop}
theorem noOwn_of {σc : Sig} (h : noOwnB σc = true) (sl : Option Slot) (hs : Slot.ownA sl = none) : ownAs (sl :: σc) = [] := by
  cases q : ownAs (sl :: σc) with
  | nil => rfl
  | cons a r =>
    obtain ⟨i, ds, e⟩ := own_mem (σ := sl :: σc) (a := a) (by rw [q]; exact .head _)
    cases i with
    | zero => cases e; cases hs
    | succ i =>
      have := List.all_eq_true.mp h _ (List.mem_of_getElem? (show σc[i]? = _ by simpa using e))
      cases this

structure CompInv (C' : Cx) (N : Nat) (σc : Sig) (St : Nat → Heap → Prop) (Dl : Addr) (W' : List Addr) (items : Nat → List D) (wr : List Addr) (s2 : Shared) (k : Nat) (xs : Option Slot) (ws : List Value) (s' : Shared) : Prop where
  own : Slot.ownA xs = none
  ro : ∀ a ds, xs ≠ some (.ro a ds)
  ok : C'.Ok (xs :: σc) s'
  st : St k s'.heap
  pl : s'.heap.PlainList Dl ws.toArray
  dn : Dens W' s'.heap ws (items k)
  kp : ∀ a o, a ∉ C'.X.T :: wr → s2.heap.get? a = some o → s'.heap.get? a = some o
  os : s'.os = s2.os
set_option maxHeartbeats 1000000 in
theorem comp_core {elt iter : Expr} {x : Str} {px : Pos} {ifs : List Expr} {scope : Scope} {cl : List (Str × Addr)} {pos : Pos} {layc : List (Str × Bool)} {globc : List Str} {σc : Sig} {N : Nat} {f g : Nat → D} {p : Nat → Bool}
    (K : CompF C σ scope cl x layc globc σc) (hi : ItW C σ iter N f)
    (ht : ∀ L Dl k, k < N → TestsOk (C.comp σ scope cl x layc globc L Dl) (some (.val (f k)) :: σc) ifs (p k)) (he : ∀ L Dl k, k < N → p k = true → EvE (C.comp σ scope cl x layc globc L Dl) (some (.val (f k)) :: σc) elt (g k)) (hN : N ≤ 1000)
    {A : Around} (hA : AOk C.n A) (O : C.Ok σ s) {R : Value → Addr → Result → Shared → Prop}
    (hR : ∀ L Dl s5, CompDone C σ s s5 L Dl (((List.range N).filter p).map g) → R (.ref Dl) L (.ok .next) s5) :
    wpAny C.X.M A (eval iter C.env) (fun xv s1 => wpAny C.X.M A (pyIter xv) (fun it s2 => wpAny C.X.M A (newList []) (fun acc s3 => wpAny C.X.M A (newFunctionEnv scope C.env.globals cl [] C.env.qual none .none (some C.env)) (fun cenv s4 =>
      codeAny C.X.M A (.compStart (.ListComp elt [⟨.Name x px, iter, ifs, 0⟩] scope pos) 0 it acc { cenv with scope := relabel scope C.env }) (R acc cenv.locals) s4) NE s3) NE s2) NE s1) NE s := by
  refine hi A s _ hA O fun I s2 fp wr Pv St x2 O2 It => ?_
  refine wpAny_newList ?_ (by simp)
  refine wpAny_newFunctionEnv K.nocell (fun y hy => by cases hy) (fun h4 hns4 hsb4 => ?_) K.kind
  dsimp only at hns4 hsb4 ⊢
  let Dl : Addr := s2.heap.objs.size
  generalize eH3 : s2.heap.push { cls := .type "list", data := .seq ([] : List Value).toArray } = H3 at hns4 hsb4 ⊢
  generalize eL : H3.objs.size = L at hns4 hsb4 ⊢
  have hL : L = Dl + 1 := by rw [← eL, ← eH3, Heap.size_push]
  have hDL : Dl ≠ L := by rw [hL]; exact Nat.ne_of_lt (Nat.lt_succ_self _)
  have dD : s2.heap.get? Dl = none := get_size
  have dL : s2.heap.get? L = none := Heap.get?_none_of_le (by rw [hL]; exact Nat.le_succ _)
  have old : ∀ b o, s2.heap.get? b = some o → h4.get? b = some o := fun b o e => hsb4.extBut b o (fun q => by rw [q, dL] at e; cases e) (Heap.get?_push_of_some _ (eH3 ▸ Heap.get?_push_of_some _ e))
  have eD4 : h4.get? Dl = some { cls := .type "list", data := .seq ([] : List Value).toArray } := hsb4.extBut _ _ hDL (Heap.get?_push_of_some _ (eH3 ▸ Heap.get?_push_size _ rfl))
  have eL4 : ∃ o, h4.get? L = some o := let ⟨o, _, _, e, _⟩ := hns4; ⟨o, e⟩
  let C' := C.comp σ scope cl x layc globc L Dl
  let W' : List Addr := C'.W (none :: σc)
  have cellEq : ∀ c ∈ C'.F.cellAs, c ∈ C.F.cellAs := fun c hc => by
    obtain ⟨y, hy, rfl⟩ := cell_mem hc
    rcases List.mem_cons.mp hy with hy | hy
    · cases hy
    · obtain ⟨_, h2, h3⟩ := K.cells _ hy
      have : C'.F.cell y = C.F.cell y := by
        show (cl.lookup y).getD 0 = (C.env.cells.lookup y).getD 0
        rw [h3]
      rw [this]; exact mem_cell h2
  have ownN : ∀ sl : Option Slot, Slot.ownA sl = none → ownAs (sl :: σc) = [] := noOwn_of K.noOwn
  have WEq : ∀ sl : Option Slot, Slot.ownA sl = none → C'.W (sl :: σc) = W' := fun sl h => by
    show C'.Wo ++ Wr C'.X C'.F (sl :: σc) = C'.Wo ++ Wr C'.X C'.F (none :: σc)
    unfold Wr
    rw [ownN sl h, ownN none rfl]
  have W'sub : ∀ a ∈ W', a ∈ C.W σ ∨ s2.heap.get? a = none := fun a m => by
    rcases List.mem_append.mp m with m | m
    · rcases List.mem_cons.mp m with rfl | m
      · exact .inr dD
      · exact .inl m
    rcases List.mem_cons.mp m with rfl | m
    · exact .inl mem_T
    rcases List.mem_cons.mp m with rfl | m
    · exact .inr dL
    rw [ownN none rfl, List.append_nil] at m
    exact .inl (List.mem_append_right _ (.tail _ (.tail _ (List.mem_append_left _ (cellEq a m)))))
  have wrNot : ∀ a ∈ wr, a ∉ C.W σ ∧ ∃ o, s2.heap.get? a = some o := fun a m => It.fpOk a (It.wrOk a m).1
  have wrW' : ∀ a ∈ wr, a ∉ W' := fun a m n => (W'sub a n).elim (wrNot a m).1 fun q => by obtain ⟨o, e⟩ := (wrNot a m).2; rw [q] at e; cases e
  have fpW' : ∀ a ∈ fp, a ∉ W' := fun a m n => (W'sub a n).elim (It.fpOk a m).1 fun q => by obtain ⟨o, e⟩ := (It.fpOk a m).2; rw [q] at e; cases e
  have DW' : Dl ∈ W' := List.mem_append_left _ (.head _)
  have LW' : L ∈ W' := List.mem_append_right _ (.tail _ (.head _))
  have TW' : C.X.T ∈ W' := List.mem_append_right _ (.head _)
  have cW' : ∀ c ∈ C'.F.cellAs, c ∈ W' := fun c m => List.mem_append_right _ (.tail _ (.tail _ (List.mem_append_left _ m)))
  have wrHb : ∀ a ∈ wr, C.X.hb.get? a = none := fun a m => by
    cases q : C.X.hb.get? a with
    | none => rfl
    | some o => have := O.bs.le a o q; rw [(It.wrOk a m).2] at this; cases this
  have DnotCell : Dl ∉ C'.F.cellAs := fun m => by
    obtain ⟨y, hy, e⟩ := cell_mem (cellEq _ m)
    obtain ⟨v, o, q, _⟩ := O2.cells y hy
    rw [← e] at q
    have q' : s2.heap.get? Dl = some o := q
    rw [dD] at q'; cases q'
  have TneD : C.X.T ≠ Dl := fun q => by obtain ⟨ps, e, _⟩ := O2.bs.tab; rw [q, dD] at e; cases e
  have slotAt : ∀ (j : Nat) sl, σc[j]? = some (some sl) → ∃ (y : Str) (i : Nat) (sl₀ : Slot), layc[j]? = some (y, true) ∧ C.F.lay[i]? = some (y, true) ∧ σ[i]? = some (some sl₀) ∧ Down sl₀ sl := fun j sl e => by
    have hj : j < layc.length := Nat.lt_of_lt_of_le (List.getElem?_eq_some_iff.mp e).1 K.len
    obtain ⟨⟨y, b⟩, hy⟩ : ∃ q, layc[j]? = some q := ⟨layc[j], by simp [hj]⟩
    have hb := (K.cells _ (List.mem_of_getElem? hy)).1
    dsimp only at hb
    subst hb
    obtain ⟨i, sl₀, h1, h2, h3⟩ := K.slots j y sl hy e
    exact ⟨y, i, sl₀, hy, h1, h2, h3⟩
  have roD : ∀ (sl : Option Slot), (∀ a ds, sl ≠ some (.ro a ds)) → ∀ (j : Nat) a ds, (sl :: σc : Sig)[j]? = some (some (.ro a ds)) → a ≠ Dl := fun sl hsl j a ds e => by
    cases j with
    | zero => exact absurd (show sl = some (.ro a ds) by simpa using e) (hsl a ds)
    | succ j =>
      obtain ⟨y, i, sl₀, _, h1, h2, h3⟩ := slotAt j _ (show σc[j]? = _ by simpa using e)
      obtain ⟨m, hn, hv⟩ := O2.vars
      obtain ⟨v, _, hs⟩ := hv i y true sl₀ h1 h2
      intro q
      cases h3 with
      | own _ _ => obtain ⟨_, vs, ⟨n, e⟩, _⟩ := hs; rw [q] at e; have e' : s2.heap.get? Dl = some _ := e; rw [dD] at e'; cases e'
      | ro _ _ => obtain ⟨_, vs, ⟨o, e, _⟩, _⟩ := hs; rw [q] at e; have e' : s2.heap.get? Dl = some _ := e; rw [dD] at e'; cases e'
  -- the comprehension's frame, as it starts
  have OC : C'.Ok (none :: σc) { s2 with heap := h4, toks := s2.toks + ([] : List (Str × Value)).length } := by
    have k' : ∀ a o, s2.heap.get? a = some o → ¬ Inert o → h4.get? a = some o := fun a o e _ => old a o e
    obtain ⟨mP, hnP, hvP⟩ := O2.vars
    refine ⟨⟨fun a o e => old a o (O2.bs.le a o e), let ⟨ps, e, r⟩ := O2.bs.tab; ⟨ps, old _ _ e, r⟩, O2.bs.bare⟩, ⟨_, hns4, fun j y b sl h1 h2 => ?_⟩, fun y hy => ?_, fun j a ds e => ?_, fun a m => ?_, fun a m => ?_, by rw [ownN none rfl]; exact List.nodup_nil, by rw [ownN none rfl]; exact fun _ m => nomatch m⟩
    · cases j with
      | zero => cases h2
      | succ j =>
        obtain ⟨y', i, sl₀, hy, e1, e2, e3⟩ := slotAt j sl (by simpa using h2)
        have h1' : layc[j]? = some (y, b) := by simpa [Cx.comp, C'] using h1
        rw [hy] at h1'; cases h1'
        obtain ⟨v, hh, hs⟩ := hvP i y true sl₀ e1 e2
        have hcell : C'.F.cell y = C.F.cell y := by
          show (cl.lookup y).getD 0 = (C.env.cells.lookup y).getD 0
          rw [(K.cells _ (List.mem_of_getElem? hy)).2.2]
        refine ⟨v, ?_, ?_⟩
        · show h4.IsCell (C'.F.cell y) (some v)
          rw [hcell]; exact isCell_up k' hh
        · show SDen W' h4 v sl
          cases e3 with
          | val d => exact den_up k' W'sub hs
          | own a ds => obtain ⟨ev, vs, p, r⟩ := hs; exact ⟨ev, vs, isList_up k' p.isList, dens_up k' W'sub r⟩
          | ro a ds => obtain ⟨ev, vs, p, r⟩ := hs; exact ⟨ev, vs, isList_up k' p, dens_up k' W'sub r⟩
    · rcases List.mem_cons.mp hy with hy | hy
      · cases hy
      · obtain ⟨_, h2, h3⟩ := K.cells _ hy
        obtain ⟨v, q⟩ := O2.cells y h2
        have hcell : C'.F.cell y = C.F.cell y := by
          show (cl.lookup y).getD 0 = (C.env.cells.lookup y).getD 0
          rw [h3]
        exact ⟨v, by rw [hcell]; exact isCell_up k' q⟩
    · have := mem_own (σ := none :: σc) e
      rw [ownN none rfl] at this; cases this
    · rcases W'sub a m with q | q
      · exact O2.fresh a q
      · show C.X.hb.get? a = none
        cases z : C.X.hb.get? a with
        | none => rfl
        | some o => have := O2.bs.le a o z; rw [q] at this; cases this
    · rcases List.mem_cons.mp m with rfl | m
      · exact ⟨_, eD4⟩
      · obtain ⟨o, e⟩ := O2.live a m; exact ⟨o, old a o e⟩
  -- the loop
  let items : Nat → List D := fun k => ((List.range k).filter p).map g
  have loop : ∀ s4 : Shared, s4 = { s2 with heap := h4, toks := s2.toks + ([] : List (Str × Value)).length } →
      codeAny C.X.M A (.compLoop (.ListComp elt [⟨.Name x px, iter, ifs, 0⟩] scope pos) 0 (.ref I) (.ref Dl) (compEnvC scope cl L C.env)) (R (.ref Dl) L) s4 := by
    rintro s4 rfl
    have st0 : St 0 h4 := (It.walks { handled := none } rfl).frame 0 _ _ It.st fun b _ o e => old b o e
    have inv0 : CompInv C' N σc St Dl W' items wr s2 0 none [] { s2 with heap := h4, toks := s2.toks + ([] : List (Str × Value)).length } :=
      ⟨rfl, (fun _ _ e => nomatch e), OC, st0, ⟨_, eD4⟩, .nil, fun a o _ e => old a o e, rfl⟩
    refine codeAny_compLoop_tests (fun n s' => ∃ (k : Nat) (xs : Option Slot) (ws : List Value), n = N + 1 - k ∧ k ≤ N ∧ CompInv C' N σc St Dl W' items wr s2 k xs ws s') ?_ (N + 1) ⟨0, none, [], rfl, Nat.zero_le _, inv0⟩
    rintro n s1 ⟨k, xs, ws, rfl, hk, hxo, hxr, O1, st1, pl1, dn1, kp1, os1⟩
    have inert1 : ∀ a ∈ wr, ∀ o, s1.heap.get? a = some o → Inert o := fun a m o e => by obtain ⟨o', e', q⟩ := It.live _ _ st1 a m; rw [e] at e'; cases e'; exact q.1
    by_cases hlt : k < N
    · refine (It.walks A hA.1).item k s1 _ _ hlt st1 fun v h' tk hPv st2 hk2 => ?_
      let sa : Shared := { s1 with heap := h', toks := tk }
      have Oa : C'.Ok (xs :: σc) sa := O1.keepOff (W' := wr) (fun b o n e => hk2 b o n e) inert1 (fun b m n => wrW' b n (List.mem_append_left _ m))
        ⟨fun b o e => hk2 b o (fun m => absurd (e.symm.trans (wrHb b m)) (fun q => nomatch q)) (O1.bs.le b o e), let ⟨ps, e, r⟩ := O1.bs.tab; ⟨ps, hk2 _ _ (fun m => wrW' _ m TW') e, r⟩, O1.bs.bare⟩
      have up1 : ∀ a o, s1.heap.get? a = some o → ¬ Inert o → h'.get? a = some o := fun a o e n => hk2 a o (fun m => n (inert1 a m o e)) e
      have dv : Den W' h' v (f k) := (It.den k v hPv hlt).ext (fun a o n e => hk2 a o (fun m => n (List.mem_append_left _ m)) (kp1 a o (fun m => n (by
          rcases List.mem_cons.mp m with rfl | m
          · exact List.mem_append_right _ mem_T
          · exact List.mem_append_left _ m)) e)) fun a m => (W'sub a m).imp (List.mem_append_right _) id
      refine wpAny_mono (wpAny_assign_Name (store_valP (C := C') (K.ok L) (i := 0) (sl := .val (f k)) rfl rfl Oa (by show Den (C'.W (xs :: σc)) _ _ _; rw [WEq xs hxo]; exact dv) (Q := fun _ sb => C'.Ok (some (.val (f k)) :: σc) sb ∧ Ext [L] sa sb) fun sb Ob xb => ⟨Ob, xb⟩)) (fun _ sb ⟨Ob, xb⟩ => ?_) (fun _ _ q => q.elim)
      have keepL : ∀ a o, a ≠ L → h'.get? a = some o → sb.heap.get? a = some o := fun a o n e => xb.keep a o (fun m => n (List.mem_singleton.mp m)) e
      have keepB : ∀ a o, a ∉ W' → h'.get? a = some o → sb.heap.get? a = some o := fun a o n e => keepL a o (fun q => n (q ▸ LW')) e
      have stB : St (k + 1) sb.heap := (It.walks A hA.1).frame _ _ _ st2 fun a m o e => keepB a o (fpW' a m) e
      have plB : sb.heap.PlainList Dl ws.toArray := by
        obtain ⟨n, e⟩ := plain_up up1 pl1
        exact ⟨n, keepL _ _ hDL e⟩
      have dnB : Dens W' sb.heap ws (items k) := (dens_up up1 (fun _ m => .inl m) dn1).ext keepB fun _ m => .inl m
      have kpB : ∀ a o, a ∉ C.X.T :: wr → s2.heap.get? a = some o → sb.heap.get? a = some o := fun a o n e => keepL a o (fun q => by rw [q, dL] at e; cases e) (hk2 a o (fun m => n (.tail _ m)) (kp1 a o n e))
      have itemsS : items (k + 1) = if p k = true then items k ++ [g k] else items k := by
        show ((List.range (k + 1)).filter p).map g = _
        rw [List.range_succ, List.filter_append, List.map_append]
        cases hp : p k with
        | true => rw [if_pos rfl]; simp [hp]; rfl
        | false => rw [if_neg (by decide)]; simp [hp]; rfl
      refine wpAny_mono (ht L Dl k hlt A sb (fun ok sc => ok = p k ∧ C'.Ok (some (.val (f k)) :: σc) sc ∧ Ext [C.X.T] sb sc) hA Ob fun ok sc xc Oc eok => ⟨eok, Oc, xc⟩) (fun ok sc ⟨eok, Oc, xc⟩ => ?_) (fun _ _ q => q.elim)
      subst eok
      have upT : ∀ {s s' : Shared}, Ext [C.X.T] s s' → ∀ a o, a ∉ W' → s.heap.get? a = some o → s'.heap.get? a = some o := fun x a o n e => x.keep a o (fun m => n (by rw [List.mem_singleton.mp m]; exact TW')) e
      have stC : St (k + 1) sc.heap := (It.walks A hA.1).frame _ _ _ stB fun a m o e => upT xc a o (fpW' a m) e
      have plC : sc.heap.PlainList Dl ws.toArray := let ⟨n, e⟩ := plB; ⟨n, xc.keep _ _ (fun m => TneD (List.mem_singleton.mp m).symm) e⟩
      have dnC : Dens W' sc.heap ws (items k) := dnB.ext (upT xc) fun _ m => .inl m
      have kpC : ∀ a o, a ∉ C.X.T :: wr → s2.heap.get? a = some o → sc.heap.get? a = some o := fun a o n e => xc.keep a o (fun m => n (by rw [List.mem_singleton.mp m]; exact .head _)) (kpB a o n e)
      have osC : sc.os = s2.os := by rw [xc.os, xb.os]; exact os1
      cases hp : p k with
      | false =>
        rw [if_neg (by decide)]
        rw [hp, if_neg (by decide)] at itemsS
        exact ⟨N + 1 - (k + 1), by omega, k + 1, some (.val (f k)), ws, rfl, hlt, ⟨rfl, (fun _ _ e => nomatch e), Oc, stC, plC, by rw [itemsS]; exact dnC, kpC, osC⟩⟩
      | true =>
        rw [if_pos rfl]
        rw [hp, if_pos rfl] at itemsS
        refine wpAny_mono ((he L Dl k hlt hp).run A sc (fun y sd => Den W' sd.heap y (g k) ∧ C'.Ok (some (.val (f k)) :: σc) sd ∧ Ext [C.X.T] sc sd) hA Oc fun y sd xd Od dy => ⟨by rw [← WEq (some (.val (f k))) rfl]; exact dy, Od, xd⟩) (fun y sd ⟨dy, Od, xd⟩ => ?_) (fun _ _ q => q.elim)
        have stD : St (k + 1) sd.heap := (It.walks A hA.1).frame _ _ _ stC fun a m o e => upT xd a o (fpW' a m) e
        have plD : sd.heap.PlainList Dl ws.toArray := let ⟨n, e⟩ := plC; ⟨n, xd.keep _ _ (fun m => TneD (List.mem_singleton.mp m).symm) e⟩
        have dnD : Dens W' sd.heap ws (items k) := dnC.ext (upT xd) fun _ m => .inl m
        have kpD : ∀ a o, a ∉ C.X.T :: wr → s2.heap.get? a = some o → sd.heap.get? a = some o := fun a o n e => xd.keep a o (fun m => n (by rw [List.mem_singleton.mp m]; exact .head _)) (kpC a o n e)
        have lw : ws.length ≤ N := by
          rw [dnD.length]
          show (((List.range k).filter p).map g).length ≤ N
          rw [List.length_map]
          have := List.length_filter_le p (List.range k)
          rw [List.length_range] at this
          omega
        refine wpAny_list_append_plain plD (fun h5 pl5 hs5 => ?_) (by rw [sizeLine_eq]; simp; omega)
        have k5 : ∀ a o, a ≠ Dl → sd.heap.get? a = some o → h5.get? a = some o := fun a o n e => hs5.extBut a o n e
        have k5W : ∀ a o, a ∉ W' → sd.heap.get? a = some o → h5.get? a = some o := fun a o n e => k5 a o (fun q => n (q ▸ DW')) e
        have O5 : C'.Ok (some (.val (f k)) :: σc) { sd with heap := h5, toks := sd.toks } := Od.writeWo (b := Dl) (.head _) TneD (fun q => hDL q.symm) DnotCell (fun j a ds e => roD (some (.val (f k))) (fun _ _ e => nomatch e) j a ds e) k5 (let ⟨n, e⟩ := pl5; ⟨_, e⟩) rfl
        have dn5 : Dens W' h5 (ws ++ [y]) (items (k + 1)) := by
          rw [itemsS]
          exact (dnD.ext k5W fun _ m => .inl m).append (.cons (dy.ext k5W fun _ m => .inl m) .nil)
        have st5 : St (k + 1) h5 := (It.walks A hA.1).frame (k + 1) _ _ stD fun a m o e => k5W a o (fpW' a m) e
        have kp5 : ∀ a o, a ∉ C.X.T :: wr → s2.heap.get? a = some o → h5.get? a = some o := fun a o n e => k5 a o (fun q => by rw [q, dD] at e; cases e) (kpD a o n e)
        have os5 : sd.os = s2.os := by rw [xd.os]; exact osC
        have pl5' : h5.PlainList Dl (ws ++ [y]).toArray := by simpa using pl5
        exact ⟨N + 1 - (k + 1), by omega, k + 1, some (.val (f k)), ws ++ [y], rfl, hlt, ⟨rfl, (fun _ _ e => nomatch e), O5, st5, pl5', dn5, kp5, os5⟩⟩
    · have hkN : k = N := by omega
      subst hkN
      refine (It.walks A hA.1).done s1 _ _ st1 fun h' tk hk2 => hR L Dl _ ?_
      let sz : Shared := { s1 with heap := h', toks := tk }
      have up1 : ∀ a o, s1.heap.get? a = some o → ¬ Inert o → h'.get? a = some o := fun a o e n => hk2 a o (fun m => n (inert1 a m o e)) e
      have kz : ∀ a o, a ∉ C.X.T :: wr → s2.heap.get? a = some o → h'.get? a = some o := fun a o n e => hk2 a o (fun m => n (.tail _ m)) (kp1 a o n e)
      have plZ : h'.PlainList Dl ws.toArray := plain_up up1 pl1
      have bz : Bs C.X sz := ⟨fun b o e => hk2 b o (fun m => absurd (e.symm.trans (wrHb b m)) (fun q => nomatch q)) (O1.bs.le b o e), let ⟨ps, e, r⟩ := O1.bs.tab; ⟨ps, hk2 _ _ (fun m => wrW' _ m TW') e, r⟩, O1.bs.bare⟩
      have nsZ : ∃ m, h'.Ns L m := let ⟨m, hn, _⟩ := O1.vars; ⟨m, ns_up up1 hn⟩
      have exL : ∃ o, h'.get? L = some o := let ⟨_, o, _, _, e, _⟩ := nsZ; ⟨o, e⟩
      have okZ : Mine.Ok C.X C.F ([Dl, L] ++ C.Wo) σ sz := by
        refine O2.growOff (W' := C.X.T :: wr) kz (fun a m o e => ?_) (fun a m => ?_) (fun b m => ?_) bz
        · rcases List.mem_cons.mp m with rfl | m
          · exact O2.bs.inertT _ (.head _) o e
          · obtain ⟨o', e', q⟩ := It.live _ _ It.st a m; rw [e] at e'; cases e'; exact q.1
        · by_cases q : a = C.X.T
          · subst q; obtain ⟨ps, e, _⟩ := bz.tab; exact ⟨_, e⟩
          · obtain ⟨o, e⟩ := O2.there a m
            exact ⟨o, kz a o (fun m' => by
              rcases List.mem_cons.mp m' with z | m'
              · exact q z
              · exact (wrNot a m').1 (List.mem_append_left _ m)) e⟩
        · rcases List.mem_cons.mp m with rfl | m
          · obtain ⟨n, e⟩ := plZ; exact ⟨dD, _, e⟩
          · rw [List.mem_singleton.mp m]; exact ⟨dL, exL⟩
      refine ⟨okZ, nsZ, ⟨ws, plZ, ?_⟩, ⟨fun a o n e => ?_, fun a o e => ?_, ?_⟩, ⟨x2.none dD, x2.none dL⟩, hDL⟩
      · refine (dens_up up1 (fun _ m => .inl m) dn1).sub fun a m => ?_
        rcases List.mem_cons.mp m with rfl | m
        · exact DW'
        rcases List.mem_cons.mp m with rfl | m
        · exact LW'
        · exact List.mem_append_left _ (.tail _ m)
      · refine kz a o (fun m => ?_) (x2.keep a o n e)
        rcases List.mem_cons.mp m with rfl | m
        · exact n (.head _)
        · rw [(It.wrOk a m).2] at e; cases e
      · by_cases q : a = C.X.T
        · subst q; obtain ⟨ps, e, _⟩ := bz.tab; exact ⟨_, e⟩
        · refine ⟨o, kz a o (fun m => ?_) (x2.keep a o (fun m => q (List.mem_singleton.mp m)) e)⟩
          rcases List.mem_cons.mp m with z | m
          · exact q z
          · rw [(It.wrOk a m).2] at e; cases e
      · show s1.os = s.os
        rw [os1, x2.os]
  exact codeAny_compStart_list (loop _ rfl) ((It.walks A hA.1).self 0 _ _ _ ((It.walks { handled := none } rfl).frame _ _ _ It.st fun b _ o e => old b o e) (loop _ rfl))
end
end Mine
namespace Mine
open MineP
section
variable {X : Wd} {F : Fm} {Wo : List Addr} {σ : Sig} {s s' : Shared}
theorem Ok.dropWo {b : Addr} (O : Ok X F (b :: Wo) σ s) (hb : b ∉ Wo) (h1 : X.T ≠ b) (h2 : F.env.locals ≠ b) (h3 : b ∉ F.cellAs) (h4 : ∀ (j : Nat) a ds, σ[j]? = some (some (.ro a ds)) → a ≠ b)
    (k : ∀ a o, a ≠ b → s.heap.get? a = some o → s'.heap.get? a = some o) (hg : s'.gens = s.gens) : Ok X F Wo σ s' := by
  have kW : ∀ a o, a ∉ (b :: Wo) ++ Wr X F σ → s.heap.get? a = some o → s'.heap.get? a = some o := fun a o n e => k a o (fun q => n (q ▸ .head _)) e
  have sub : ∀ a, a ∈ Wo ++ Wr X F σ → a ∈ (b :: Wo) ++ Wr X F σ := fun a m => .tail _ m
  have hbo : ∀ a ∈ ownAs σ, a ≠ b := fun a m q => O.ownOut a m (q ▸ .head _)
  obtain ⟨m, ⟨o, es, ep, e, d, r⟩, hv⟩ := O.vars
  refine ⟨⟨fun a o e => kW a o (fun m => by have := O.fresh a m; rw [e] at this; cases this) (O.bs.le a o e), let ⟨ps, e, r⟩ := O.bs.tab; ⟨ps, k _ _ h1 e, r⟩, by rw [hg]; exact O.bs.bare⟩,
    ⟨m, ⟨o, es, ep, k _ _ h2 e, d, r⟩, fun i y c sl e1 e2 => ?_⟩, fun y hy => ?_, fun i a ds e => ?_, fun a m => O.fresh a (sub a m), fun a m => ?_, O.owns, fun a m n => O.ownOut a m (.tail _ n)⟩
  · obtain ⟨v, hh, hs⟩ := hv i y c sl e1 e2
    refine ⟨v, ?_, ?_⟩
    · cases c with
      | false => exact hh
      | true => obtain ⟨o, e, d⟩ := hh; exact ⟨o, k _ _ (fun q => h3 (q ▸ mem_cell (List.mem_of_getElem? e1))) e, d⟩
    · cases sl with
      | val d => exact hs.ext kW fun a m => .inl (sub a m)
      | own a ds => obtain ⟨ev, vs, ⟨n, p⟩, r⟩ := hs; exact ⟨ev, vs, ⟨n, k _ _ (hbo a (mem_own e2)) p⟩, r.ext kW fun a m => .inl (sub a m)⟩
      | app a => obtain ⟨q, ev, n, g⟩ := hs; exact ⟨q, ev, fun m => n (sub _ m), kW _ _ n g⟩
      | ro a ds => obtain ⟨ev, vs, ⟨o, l, c⟩, r⟩ := hs; exact ⟨ev, vs, ⟨o, k _ _ (h4 i a ds e2) l, c⟩, r.ext kW fun a m => .inl (sub a m)⟩
  · obtain ⟨v, o, e, d⟩ := O.cells y hy
    exact ⟨v, o, k _ _ (fun q => h3 (q ▸ mem_cell hy)) e, d⟩
  · obtain ⟨its, n, p⟩ := O.lists i a ds e
    exact ⟨its, n, k _ _ (hbo a (mem_own e)) p⟩
  · obtain ⟨o, e⟩ := O.there a (.tail _ m)
    exact ⟨o, k _ _ (fun q => hb (q ▸ m)) e⟩
/-- a new address is none of the frame's -/
theorem Ok.newIs {b : Addr} (O : Ok X F Wo σ s) (e : s.heap.get? b = none) : X.T ≠ b ∧ F.env.locals ≠ b ∧ b ∉ F.cellAs ∧ (∀ (j : Nat) a ds, j < F.lay.length → σ[j]? = some (some (.ro a ds)) → a ≠ b) ∧ b ∉ Wo := by
  have n := O.off e
  refine ⟨fun q => n (q ▸ mem_T), fun q => n (q ▸ mem_L), fun m => n (List.mem_append_right _ (.tail _ (.tail _ (List.mem_append_left _ m)))), fun j a ds hj h q => ?_, fun m => n (List.mem_append_left _ m)⟩
  obtain ⟨m, _, hv⟩ := O.vars
  obtain ⟨⟨y, c⟩, hy⟩ : ∃ q, F.lay[j]? = some q := ⟨F.lay[j], by simp [hj]⟩
  obtain ⟨v, _, _, vs, ⟨o, l, _⟩, _⟩ := hv j y c _ hy h
  rw [q, e] at l; cases l
end
section
variable {C : Cx} {σ : Sig} {s s' s'' : Shared} {P : DF → Sig → Prop}
theorem CompDone.after {L Dl : Addr} {ds : List D} {s5 : Shared} (K : CompDone C σ s s5 L Dl ds) (O : C.Ok σ s) (hl : σ.length ≤ C.F.lay.length) {h' : Heap} (hs : Heap.SameBut L s5.heap h') :
    C.Ok σ { s5 with heap := h' } ∧ Ext [C.X.T] s { s5 with heap := h' } ∧ ∃ vs : List Value, h'.PlainList Dl vs.toArray ∧ Dens (Dl :: C.W σ) h' vs ds := by
  obtain ⟨h1, h2, h3, h4, h5⟩ := O.newIs K.new.2
  have k : ∀ a o, a ≠ L → s5.heap.get? a = some o → h'.get? a = some o := fun a o n e => hs.extBut a o n e
  have O' : Mine.Ok C.X C.F (L :: C.Wo) σ s5 := K.ok.less fun a m => by
    rcases List.mem_cons.mp m with rfl | m
    · exact .tail _ (.head _)
    · exact .tail _ (.tail _ m)
  refine ⟨O'.dropWo h5 h1 h2 h3 (fun j a ds e => h4 j a ds (Nat.lt_of_lt_of_le (List.getElem?_eq_some_iff.mp e).1 hl) e) k rfl, ⟨fun a o n e => k a o (fun q => by rw [q, K.new.2] at e; cases e) (K.ext.keep a o n e), fun a o e => ?_, K.ext.os⟩, ?_⟩
  · obtain ⟨o', e'⟩ := K.ext.dom a o e
    exact ⟨o', k a o' (fun q => by rw [q, K.new.2] at e; cases e) e'⟩
  · obtain ⟨ws, ⟨n, p⟩, r⟩ := K.list
    refine ⟨ws, ⟨n, k _ _ K.ne p⟩, r.ext (fun a o n e => k a o (fun q => n (q ▸ .tail _ (.head _))) e) fun a m => .inl ?_⟩
    rcases List.mem_cons.mp m with rfl | m
    · exact .head _
    · exact .tail _ (.tail _ m)
theorem EvN.comp {elt iter : Expr} {x : Str} {px : Pos} {ifs : List Expr} {scope : Scope} {cl : List (Str × Addr)} {pos : Pos} {layc : List (Str × Bool)} {globc : List Str} {σc : Sig} {N : Nat} {f g : Nat → D} {p : Nat → Bool}
    (K : CompF C σ scope cl x layc globc σc) (hi : ItW C σ iter N f)
    (ht : ∀ L Dl k, k < N → TestsOk (C.comp σ scope cl x layc globc L Dl) (some (.val (f k)) :: σc) ifs (p k)) (he : ∀ L Dl k, k < N → p k = true → EvE (C.comp σ scope cl x layc globc L Dl) (some (.val (f k)) :: σc) elt (g k)) (hN : N ≤ 1000) (hl : σ.length ≤ C.F.lay.length)
    (hs : ∀ x, foldedSetIterable iter C.env x = pure x := by intro _; rfl) :
    EvN C σ (.ListComp elt [⟨.Name x px, iter, ifs, 0⟩] scope pos) (((List.range N).filter p).map g) := .mk fun A s Q hA O hQ => by
  rw [eval_ListComp]
  refine wpAny_comprehension_free (use := none) rfl hs K.clos K.kind K.names (comp_core (R := fun acc L => compPost C.X.M A NE none Q acc L) K hi ht he hN hA O fun L Dl s5 K5 => ?_)
  obtain ⟨m, hn⟩ := K5.ns
  refine ⟨m, hn, fun h' hs' => ?_⟩
  obtain ⟨O6, x6, vs, pl, dn⟩ := K5.after O hl hs'
  exact hQ _ _ x6 O6 ⟨Dl, vs, rfl, K5.new.1, pl, dn⟩
/-- y = [.. for x in ..], y a name of the frame's -/
theorem WS.assign_comp (hF : FmOk C.F) {i : Nat} {y : Str} {py spos : Pos} {elt iter : Expr} {x : Str} {px : Pos} {ifs : List Expr} {scope : Scope} {cl : List (Str × Addr)} {pos : Pos} {layc : List (Str × Bool)} {globc : List Str} {σc : Sig} {N : Nat} {f g : Nat → D} {p : Nat → Bool}
    (e1 : C.F.lay[i]? = some (y, false)) (K : CompF C σ scope cl x layc globc σc) (hi : ItW C σ iter N f)
    (ht : ∀ L Dl k, k < N → TestsOk (C.comp σ scope cl x layc globc L Dl) (some (.val (f k)) :: σc) ifs (p k)) (he : ∀ L Dl k, k < N → p k = true → EvE (C.comp σ scope cl x layc globc L Dl) (some (.val (f k)) :: σc) elt (g k)) (hN : N ≤ 1000) (hl : σ.length ≤ C.F.lay.length)
    (k : P .next (σ.set i (some (.val (.list (((List.range N).filter p).map g)))))) (hsw : swapsWith (.ListComp elt [⟨.Name x px, iter, ifs, 0⟩] scope pos) (some (PySem.Expr.Name y py)) spos.line C.env = pure true)
    (hs : ∀ x, foldedSetIterable iter C.env x = pure x := by intro _; rfl) :
    WS C σ (exec (.Assign [.Name y py] (.ListComp elt [⟨.Name x px, iter, ifs, 0⟩] scope pos) spos) C.env) P := .mk fun A s Q hA O hQ => by
  rw [exec_Assign_Name_used _ _ _ _ hsw]
  refine wpAny_bind (wpAny_standAt (wpAny_bind ?_))
  show wpAny _ A (do let _ ← comprehension (.ListComp elt [⟨.Name x px, iter, ifs, 0⟩] scope pos) scope C.env _ (newList []) false (eval iter C.env) (some (PySem.assign (PySem.Expr.Name y py) C.env))) _ _ s
  refine wpAny_bind (wpAny_mono (wpAny_comprehension_free (use := some (PySem.assign (PySem.Expr.Name y py) C.env)) (Q := fun _ s' => Q .next s') rfl hs K.clos K.kind K.names
    (comp_core (R := fun acc L => compPost C.X.M A NE (some (PySem.assign (PySem.Expr.Name y py) C.env)) (fun _ s' => Q .next s') acc L) K hi ht he hN hA O fun L Dl s5 K5 => ?_)) (fun _ s' hq => wpAny_pure (wpAny_pure hq)) fun _ _ e => e)
  obtain ⟨m, hn⟩ := K5.ns
  obtain ⟨h1, h2, h3, h4, h5⟩ := O.newIs K5.new.2
  obtain ⟨g1, g2, g3, g4, g5⟩ := O.newIs K5.new.1
  let C2 : Cx := { C with Wo := L :: C.Wo }
  have O5 : C2.Ok σ s5 := K5.ok.less fun a m => by
    rcases List.mem_cons.mp m with rfl | m
    · exact .tail _ (.head _)
    · exact .tail _ (.tail _ m)
  obtain ⟨ws, pl, dn⟩ := K5.list
  have DnotW2 : Dl ∉ C2.W σ := fun m => by
    rcases List.mem_cons.mp m with q | m
    · exact K5.ne q
    · exact O.off K5.new.1 m
  show wpAny C.X.M A (PySem.assign (PySem.Expr.Name y py) C.env (.ref Dl)) _ NE s5
  refine wpAny_assign_Name (store_valP (C := C2) hF (sl := .val (.list (((List.range N).filter p).map g))) e1 rfl O5 (.list DnotW2 pl.isList (dn.sub fun a m => ?_)) fun s6 O6 x6 => ?_)
  · rcases List.mem_cons.mp m with rfl | m
    · exact .tail _ (.head _)
    · exact .tail _ (.tail _ m)
  have hns6 : s6.heap.Ns L m := by
    obtain ⟨o, es, ep, e, d, r⟩ := hn
    exact ⟨o, es, ep, x6.keep _ _ (fun q => h2 (List.mem_singleton.mp q).symm) e, d, r⟩
  refine ⟨m, hns6, fun h' hs' => ?_⟩
  have kk : ∀ a o, a ≠ L → s6.heap.get? a = some o → h'.get? a = some o := fun a o n e => hs'.extBut a o n e
  have O7 : C.Ok (σ.set i (some (.val (.list (((List.range N).filter p).map g))))) { s6 with heap := h' } := by
    refine Ok.dropWo (show Mine.Ok C.X C.F (L :: C.Wo) _ s6 from O6) h5 h1 h2 h3 (fun j a ds e => ?_) kk rfl
    have hlen : j < C.F.lay.length := by
      have := (List.getElem?_eq_some_iff.mp e).1
      rw [List.length_set] at this
      omega
    rw [List.getElem?_set] at e
    split at e
    · split at e <;> cases e
    · exact h4 j a ds hlen e
  refine hQ .next .next _ _ k O7 ⟨fun a o n e => kk a o (fun q => by rw [q, K5.new.2] at e; cases e) (x6.keep a o (fun m => n ?_) (K5.ext.keep a o (fun m => n ?_) e)), fun a o e => ?_, ?_⟩ (Sub.of_eq (ownAs_set σ i _ rfl).subset) trivial
  · rw [List.mem_singleton.mp m]; exact .tail _ (.head _)
  · rw [List.mem_singleton.mp m]; exact .head _
  · obtain ⟨o1, e1'⟩ := K5.ext.dom a o e
    obtain ⟨o2, e2'⟩ := x6.dom a o1 e1'
    exact ⟨o2, kk a o2 (fun q => by rw [q, K5.new.2] at e; cases e) e2'⟩
  · show s6.os = s.os
    rw [x6.os, K5.ext.os]
end
end Mine
namespace Mine
open MineP
section
variable {prog : Program} {w : World} {A : Around} {E : Value → Shared → Prop}
theorem draw_walk {I : Addr} {fp wr : List Addr} {vs : List Value} {P : Nat → Value → Prop} {St : Nat → Heap → Prop} (W : Walks prog w A I fp wr vs.length P St) (hP : ∀ i v, P i v → vs[i]? = some v) : ∀ (n i : Nat) (s : Shared) (Q : List Value → Shared → Prop), St i s.heap → i + n = vs.length →
    (∀ h' tk, St vs.length h' → (∀ b o, b ∉ wr → s.heap.get? b = some o → h'.get? b = some o) → Q (vs.drop i) { s with heap := h', toks := tk }) → wpAny (model prog w) A (draw (.ref I) n) Q E s
  | 0, i, s, Q, st, hn, hQ => by
    show wpAny _ _ (pure []) Q E s
    have e : vs.drop i = [] := by rw [List.drop_eq_nil_iff]; omega
    have hi : i = vs.length := by omega
    have := hQ s.heap s.toks (hi ▸ st) fun _ _ _ e => e
    rw [e] at this
    exact wpAny_pure this
  | n + 1, i, s, Q, st, hn, hQ => by
    have hlt : i < vs.length := by omega
    show wpAny _ _ (pyNext (.ref I) >>= _) Q E s
    refine wpAny_bind (W.item i s _ _ hlt st fun v h₁ tk hv st₁ k₁ => ?_)
    have hv' := hP i v hv
    refine wpAny_bind (wpAny_holding (draw_walk W hP n (i + 1) _ _ st₁ (by omega) fun h₂ tk₂ st₂ k₂ => wpAny_pure ?_))
    have hd : vs.drop i = v :: vs.drop (i + 1) := by
      rw [List.getElem?_eq_getElem hlt] at hv'
      rw [List.drop_eq_getElem_cons hlt, Option.some.inj hv']
    have := hQ h₂ tk₂ st₂ fun b o n e => k₂ b o n (k₁ b o n e)
    rw [hd] at this
    exact this
theorem unpackItems_walk {v : Value} {I : Addr} {fp wr : List Addr} {vs : List Value} {n : Nat} {P : Nat → Value → Prop} {St : Nat → Heap → Prop} {s s₁ : Shared} {T id : String} (hT : s.TypeIs v T) (hs : typeLookup (.type T) "__iter__" = pure (some (.builtin id)))
    (hi : ∀ (Q : Value → Shared → Prop), Q (.ref I) s₁ → wpAny (model prog w) A (pyIter v) Q E s) (W : Walks prog w A I fp wr vs.length P St) (hP : ∀ i v, P i v → vs[i]? = some v) (st : St 0 s₁.heap) (hn : n = vs.length) {Q : List Value → Shared → Prop}
    (hQ : ∀ h' tk, (∀ b o, b ∉ wr → s₁.heap.get? b = some o → h'.get? b = some o) → Q vs { s₁ with heap := h', toks := tk }) : wpAny (model prog w) A (unpackItems v n none) Q E s := by
  subst hn
  unfold unpackItems
  refine wpAny_bind ?_
  unfold notIterableAtAll
  refine wpAny_bind (wpAny_specialOf hT hs ?_)
  refine wpAny_pure ?_
  simp only [Bool.false_eq_true, if_false]
  refine wpAny_bind (wpAny_holding (hi _ ?_))
  refine wpAny_bind (wpAny_holding (draw_walk W hP vs.length 0 _ _ st (by omega) fun h₁ tk₁ st₁ k₁ => ?_))
  rw [List.drop_zero, if_neg (by simp)]
  refine wpAny_bind (wpAny_holding (W.done _ _ _ st₁ fun h₂ tk₂ k₂ => ?_))
  simp only [Option.isSome_none, Bool.false_eq_true, if_false]
  exact wpAny_pure (hQ h₂ tk₂ fun b o n e => k₂ b o n (k₁ b o n e))
end
section
variable {C : Cx} {σ : Sig} {s s' s'' : Shared} {P : DF → Sig → Prop}
/-- what is unpacked at once -/
noncomputable def EvU (C : Cx) (σ : Sig) (e : Expr) (ds : List D) : Prop :=
  ∀ (A : Around) (s : Shared) (Q : List Value → Shared → Prop), AOk C.n A → C.Ok σ s →
    (∀ vs s', Ext [C.X.T] s s' → C.Ok σ s' → Dens (C.W σ) s'.heap vs ds → Q vs s') → wpAny C.X.M A (eval e C.env) (fun v s₁ => wpAny C.X.M A (unpackItems v ds.length none) Q NE s₁) NE s
theorem unpack_after {o : Obj} {vs : List Value} {ds : List D} {Q : List Value → Shared → Prop} (O : C.Ok σ s) (r : Dens (C.W σ) s.heap vs ds)
    (hQ : ∀ vs s', Ext [C.X.T] s s' → C.Ok σ s' → Dens (C.W σ) s'.heap vs ds → Q vs s') {h' : Heap} {tk : Nat} (k : ∀ b x, b ∉ [s.heap.objs.size] → (s.heap.push o).get? b = some x → h'.get? b = some x) : Q vs { s with heap := h', toks := tk } := by
  have k' : ∀ b x, s.heap.get? b = some x → h'.get? b = some x := fun b x e => k b x (fun m => by rw [List.mem_singleton.mp m, get_size] at e; cases e) (Heap.get?_push_of_some _ e)
  have x : Ext [C.X.T] s { s with heap := h', toks := tk } := ⟨fun b x _ e => k' b x e, fun b x e => ⟨x, k' b x e⟩, rfl⟩
  exact hQ vs _ x (O.extT x ⟨fun a o e => k' a o (O.bs.le a o e), let ⟨ps, e, r⟩ := O.bs.tab; ⟨ps, k' _ _ e, r⟩, O.bs.bare⟩) (r.up x)
theorem EvU.tuple {e : Expr} {ds : List D} (h : EvE C σ e (.tuple ds)) : EvU C σ e ds := fun A s Q hA O hQ => h.run A s _ hA O fun v s1 x1 O1 r => by
  cases r with
  | @tuple a vs _ n l r =>
  have hne : a ≠ s1.heap.objs.size := by obtain ⟨o, e, _⟩ := l; exact Nat.ne_of_lt (Heap.lt_size e)
  exact unpackItems_walk l.typeIs F.slot_tuple_iter.lookup (fun Q h => wpAny_pyIter_tuple l h) (Walks.tuple hA.1 s1.heap.objs.size a hne vs.toArray) (fun i v h => by simpa using h) ⟨⟨_, Heap.get?_push_size _ rfl, rfl, rfl⟩, l.push _⟩ r.length.symm
    fun h' tk k => unpack_after O1 r (fun vs s' x O' r' => hQ vs s' (x1.trans' x) O' r') k
theorem EvU.list {e : Expr} {ds : List D} (h : EvL C σ e ds) : EvU C σ e ds := fun A s Q hA O hQ => h.run A s _ hA O fun v s1 x1 O1 ⟨a, vs, ev, l, r⟩ => by
  subst ev
  have hne : a ≠ s1.heap.objs.size := by obtain ⟨o, e, _⟩ := l; exact Nat.ne_of_lt (Heap.lt_size e)
  exact unpackItems_walk l.typeIs F.slot_list_iter.lookup (fun Q h => wpAny_pyIter_list l h) (Walks.list hA.1 s1.heap.objs.size a hne vs.toArray) (fun i v h => by simpa using h) ⟨⟨_, Heap.get?_push_size _ rfl, rfl, rfl⟩, l.push _⟩ r.length.symm
    fun h' tk k => unpack_after O1 r (fun vs s' x O' r' => hQ vs s' (x1.trans' x) O' r') k

inductive Tgs (C : Cx) : List (Value → Sem Unit) → List Nat → Prop
  | nil : Tgs C [] []
  | cons {f : Value → Sem Unit} {fs : List (Value → Sem Unit)} {i : Nat} {is : List Nat} {x : Str} {b : Bool} : C.F.lay[i]? = some (x, b) → (∀ (A : Around) (v : Value) (Q : Unit → Shared → Prop) (s : Shared), wpAny C.X.M A (storeName C.env x v) Q NE s → wpAny C.X.M A (f v) Q NE s) → Tgs C fs is → Tgs C (f :: fs) (i :: is)
theorem Tgs.name {fs : List (Value → Sem Unit)} {i : Nat} {is : List Nat} {x : Str} {b : Bool} {p : Pos} (e : C.F.lay[i]? = some (x, b)) (h : Tgs C fs is) : Tgs C (assign (.Name x p) C.env :: fs) (i :: is) := .cons e (fun A v Q s h => wpAny_assign_Name h) h
theorem Tgs.bindN {fs : List (Value → Sem Unit)} {i : Nat} {is : List Nat} {x : Str} {b : Bool} (e : C.F.lay[i]? = some (x, b)) (h : Tgs C fs is) : Tgs C (bindName C.env x :: fs) (i :: is) := .cons e (fun A v Q s h => wpAny_bindName h) h
noncomputable def setAll : List Nat → List D → Sig → Sig
  | i :: is, d :: ds, σ => setAll is ds (setTo i d σ)
  | _, _, σ => σ
theorem store_all (hF : FmOk C.F) {A : Around} {fs : List (Value → Sem Unit)} {is : List Nat} (t : Tgs C fs is) : ∀ (σ : Sig) (s : Shared) (vs : List Value) (ds : List D) (Q : Unit → Shared → Prop), is.length = ds.length → C.Ok σ s → Dens (C.W σ) s.heap vs ds →
    (∀ s', C.Ok (setAll is ds σ) s' → Ext (C.Wr σ) s s' → (∀ a, a ∈ ownAs (setAll is ds σ) → a ∈ ownAs σ) → Q () s') → wpAny C.X.M A (assignInOrder fs vs) Q NE s := by
  induction t with
  | nil =>
    intro σ s vs ds Q hl O r hQ
    cases ds with
    | cons d ds => cases hl
    | nil => cases r; exact wpAny_assignInOrder_none (hQ s O (Ext.refl _ _) fun _ m => m)
  | @cons f fs i is x b e hf t ih =>
    intro σ s vs ds Q hl O r hQ
    cases ds with
    | nil => cases hl
    | cons d ds =>
    cases r with
    | cons r rs =>
    refine wpAny_assignInOrder_more (hf A _ _ s (store_val hF (sl := .val d) e rfl O r fun s1 O1 x1 => ?_))
    have kW : ∀ a o, a ∉ C.W σ → s.heap.get? a = some o → s1.heap.get? a = some o := fun a o n e => x1.keep a o (fun m => n (List.mem_append_right _ (.tail _ (by
      rcases List.mem_cons.mp m with rfl | m
      · exact .head _
      · exact .tail _ (List.mem_append_left _ m))))) e
    refine ih (setTo i d σ) s1 _ ds Q (by simpa using hl) O1 (rs.ext kW fun a m => .inl (W_sub (setTo_own i d σ) a m)) fun s2 O2 x2 o2 => hQ s2 O2 (x1.ofLC.trans' (x2.sub (Wr_sub (setTo_own i d σ)))) fun a m => setTo_own i d σ a (o2 a m)
theorem WS.unpack (hF : FmOk C.F) {elts : List Expr} {value : Expr} {k : Nat} {tp p : Pos} {ds : List D} {is : List Nat} (hv : EvU C σ value ds) (ht : Tgs C ((assignEach elts C.env).map (·.2)) is) (hl : is.length = ds.length) (kk : P .next (setAll is ds σ))
    (hn : (assignEach elts C.env).length = is.length := by rfl) (hstar : (assignEach elts C.env).findIdx? (·.1) = none := by rfl)
    (hs : swapsWithSole [.Tuple elts k tp] value p.line C.env = pure false := by rfl) (hw : swappedStores [.Tuple elts k tp] value C.env = pure none := by rfl) : WS C σ (exec (.Assign [.Tuple elts k tp] value p) C.env) P := .mk fun A s Q hA O hQ => by
  have := hv A s (fun vs s' => wpAny C.X.M A (assignInOrder ((assignEach elts C.env).map (·.2)) vs) (fun _ => Q .next) NE s') hA O fun vs s1 x1 O1 r1 => store_all hF ht σ s1 vs ds _ hl O1 r1 fun s2 O2 x2 o2 => hQ .next .next _ s2 kk O2 (x1.ofT.trans' x2) (Sub.of_eq o2) trivial
  refine Assign_Tuple (wpAny_mono this (fun v s1 h1 => ?_) fun _ _ e => e) hs hw
  rw [arm_assign_Tuple]
  refine wpAny_bind (wpAny_standAt ?_)
  unfold PySem.unpack
  rw [hn, hl, hstar]
  exact wpAny_bind (wpAny_holding h1)
theorem Dens.reverse {W : List Addr} {h : Heap} : ∀ {vs : List Value} {ds : List D}, Dens W h vs ds → Dens W h vs.reverse ds.reverse
  | _, _, .nil => .nil
  | _, _, .cons r rs => by
    rw [List.reverse_cons, List.reverse_cons]
    exact (Dens.reverse rs).append (.cons r .nil)
theorem WS.unpackS (hF : FmOk C.F) {elts : List Expr} {value : Expr} {k : Nat} {tp p : Pos} {ds : List D} {is : List Nat} {names : List Str} (hw : swappedStores [.Tuple elts k tp] value C.env = pure (some names)) (hv : EvU C σ value ds) (ht : Tgs C (names.reverse.map fun n => bindName C.env n) is) (hl : is.length = ds.length) (hn : names.length = ds.length)
    (kk : P .next (setAll is ds.reverse σ)) (hs : swapsWithSole [.Tuple elts k tp] value p.line C.env = pure false := by rfl) : WS C σ (exec (.Assign [.Tuple elts k tp] value p) C.env) P := .mk fun A s Q hA O hQ => by
  refine Assign_Tuple_swapped ?_ hs hw
  rw [hn]
  exact hv A s _ hA O fun vs s1 x1 O1 r1 => store_all hF ht σ s1 _ ds.reverse _ (by simpa using hl) O1 r1.reverse fun s2 O2 x2 o2 => hQ _ _ _ s2 kk O2 (x1.ofT.trans' x2) (Sub.of_eq o2) trivial

-- chained tests
theorem EvT.chain2 {l m r : Expr} {op₁ op₂ : CmpOp} {p : Pos} {a b c : D} {u v : Bool} (h1 : EvE C σ l a) (h2 : EvE C σ m b) (h3 : EvE C σ r c) (o1 : OpB C σ (compareOp op₁) a b (.bool u)) (o2 : OpB C σ (compareOp op₂) b c (.bool v)) (hm : lastMarks [op₁, op₂] [m, r] = false := by rfl) :
    EvT C σ (.Compare l [op₁, op₂] [m, r] p) (u && v) := .mk fun A s Q hA O hQ => by
  refine isTrue_chain (h1.run A s _ hA O fun v1 s1 x1 O1 d1 => ?_) hm
  show wpAny C.X.M A (do
    let rv ← holding [v1] (eval m C.env)
    standAt p
    let c ← holding [v1, rv] (compareOp op₁ v1 rv)
    release [v1, rv] [c]
    if ← holding [c, rv] (truthy c) then testChain p rv [op₂] [eval r C.env] else pure false) Q NE s1
  refine wpAny_bind (wpAny_holding (h2.run A s1 _ hA O1 fun v2 s2 x2 O2 d2 => wpAny_bind (wpAny_standAt (wpAny_bind (wpAny_holding (o1 A s2 _ v1 v2 hA O2 (d1.up x2) d2 fun t s3 x3 O3 d3 => ?_))))))
  cases d3
  refine wpAny_bind (wpAny_release (wpAny_bind (wpAny_holding (wpAny_truthy_bool ?_))))
  cases u with
  | false =>
    rw [if_neg (by decide)]
    exact wpAny_pure (hQ _ _ ((x1.trans' x2).trans' x3) O3 rfl)
  | true =>
    rw [if_pos rfl]
    show wpAny C.X.M A (do
      let rv ← holding [v2] (eval r C.env)
      standAt p
      let c ← operate [v2, rv] (compareOp op₂ v2 rv)
      holding [c] (truthy c)) Q NE s3
    refine wpAny_bind (wpAny_holding (h3.run A s3 _ hA O3 fun v3 s4 x4 O4 d4 => wpAny_bind (wpAny_standAt (wpAny_bind (wpAny_operateT (o2 A s4 _ v2 v3 hA O4 ((d2.up x3).up x4) d4 fun t s5 x5 O5 d5 => ?_))))))
    cases d5
    exact wpAny_holding (wpAny_truthy_bool (hQ _ _ (((x1.trans' x2).trans' x3).trans' (x4.trans' x5)) O5 rfl))
end
end Mine
namespace Mine
open MineP
section
variable {C : Cx} {σ : Sig} {s s' s'' : Shared} {P : DF → Sig → Prop}
theorem Ext.grew {W : List Addr} {h' : Heap} {tk : Nat} (k : ∀ a o, s.heap.get? a = some o → h'.get? a = some o) : Ext W s { s with heap := h', toks := tk } := ⟨fun a o _ e => k a o e, fun a o e => ⟨o, k a o e⟩, rfl⟩
theorem Ok.grew {X : Wd} {F : Fm} {Wo : List Addr} {h' : Heap} {tk : Nat} (O : Ok X F Wo σ s) (k : ∀ a o, s.heap.get? a = some o → h'.get? a = some o) : Ok X F Wo σ { s with heap := h', toks := tk } :=
  O.extT (Ext.grew k) ⟨fun a o e => k a o (O.bs.le a o e), let ⟨ps, e, r⟩ := O.bs.tab; ⟨ps, k _ _ e, r⟩, O.bs.bare⟩
-- built-ins
theorem OpC.len_str {x : Str} (h : x.length < 2 ^ 63) : OpC C σ (.builtin "len") [.str x] (.int x.length) := fun A s Q vs hA O r hQ => by
  cases r with | cons r rs => cases rs; cases r; exact P.len_str (by omega) (hQ _ _ Ext.toks O.toks (.int _ _))
theorem OpC.len_list {ds : List D} (h : ds.length < 2 ^ 63) : OpC C σ (.builtin "len") [.list ds] (.int ds.length) := fun A s Q vs hA O r hQ => by
  cases r with
  | cons r rs =>
    cases rs
    cases r with
    | list n l r =>
      have e := r.length
      refine call_len_list l (by simp; omega) ?_
      rw [List.size_toArray, e]
      exact hQ _ _ Ext.toks O.toks (.int _ _)
theorem len_ref {A : Around} {Q : Value → Shared → Prop} {v : Value} {ds : List D} (O : C.Ok σ s) (h : ds.length < 2 ^ 63) (r : ListAt (C.W σ) s.heap v ds) (hQ : ∀ v s', Ext [C.X.T] s s' → C.Ok σ s' → Den (C.W σ) s'.heap v (.int ds.length) → Q v s') :
    wpAny C.X.M A (call (.builtin "len") [v]) Q NE s := by
  obtain ⟨a, vs, rfl, l, r⟩ := r
  have e := r.length
  refine call_len_list l (by simp; omega) ?_
  rw [List.size_toArray, e]
  exact hQ _ _ Ext.toks O.toks (.int _ _)
theorem OpC.min2 {a b : Int} : OpC C σ (.builtin "min") [.int a, .int b] (.int (if b < a then b else a)) := fun A s Q vs hA O r hQ => by
  cases r with | cons r rs => cases rs with | cons q rs => cases rs; cases r; cases q; exact min_two_ints hA.1 fun h' tk k => hQ _ _ (Ext.grew k) (O.grew k) (by split <;> exact .int _ _)
theorem OpC.max2 {a b : Int} : OpC C σ (.builtin "max") [.int a, .int b] (.int (if b > a then b else a)) := fun A s Q vs hA O r hQ => by
  cases r with | cons r rs => cases rs with | cons q rs => cases rs; cases r; cases q; exact max_two_ints hA.1 fun h' tk k => hQ _ _ (Ext.grew k) (O.grew k) (by split <;> exact .int _ _)
theorem OpC.isi_int {a : Int} : OpC C σ (.builtin "isinstance") [.int a, .typ "int"] (.bool true) := fun A s Q vs hA O r hQ => by
  cases r with | cons r rs => cases rs with | cons q rs => cases rs; cases r; cases q; exact call_isinstance_yes (typeIs_int _ _ _) meta_int (by rw [isSubtype_type]; kernel_rfl) (hQ _ _ (Ext.refl _ _) O (.bool _))
theorem OpC.isi_bool {a : Int} : OpC C σ (.builtin "isinstance") [.int a, .typ "bool"] (.bool false) := fun A s Q vs hA O r hQ => by
  cases r with | cons r rs => cases rs with | cons q rs => cases rs; cases r; cases q; exact call_isinstance (isinstance_false_int (by decide +kernel) F.isi_meta_bool F.sub_int_bool) (hQ _ _ Ext.toks O.toks (.bool _))
theorem OpC.isi_str {x : Str} : OpC C σ (.builtin "isinstance") [.str x, .typ "str"] (.bool true) := fun A s Q vs hA O r hQ => by
  cases r with | cons r rs => cases rs with | cons q rs => cases rs; cases r; cases q; exact call_isinstance_yes (typeIs_str _ _ _) (by kernel_rfl) (by rw [isSubtype_type]; kernel_rfl) (hQ _ _ (Ext.refl _ _) O (.bool _))
theorem EvE.typ {e : Expr} {T : String} (h : EvV C σ e (.type T)) : EvE C σ e (.typ T) := .mk fun A s Q hA O hQ => h.run A s Q hA O fun v s' x O' ev => hQ v s' x O' (by rw [ev]; exact .typ T)
/-- what a call's answer is, told by any word; its arguments told -/
noncomputable def OpR (C : Cx) (σ : Sig) (f : Value) (ds : List D) (R : Shared → Value → Shared → Prop) : Prop :=
  ∀ (A : Around) (s : Shared) (Q : Value → Shared → Prop) (vs : List Value), AOk C.n A → C.Ok σ s → Dens (C.W σ) s.heap vs ds → (∀ v s', Ext [C.X.T] s s' → C.Ok σ s' → R s v s' → Q v s') → wpAny C.X.M A (call f vs) Q NE s
noncomputable abbrev RngR (a b c : Int) (_ : Shared) (v : Value) (s' : Shared) : Prop := ∃ r t u w, v = .ref r ∧ IsRange s'.heap r a b c t u w
theorem EvR.call {x : Str} {np p : Pos} {args : List Expr} {ds : List D} {a b c : Int} (hf : EvV C σ (.Name x np) (.type "range")) (ha : EvEs C σ args ds) (h : OpR C σ (.type "range") ds (RngR a b c)) : EvR C σ (.Call (.Name x np) args [] p) a b c :=
  callV_run hf trivial ha h fun _ _ _ _ _ r => r
theorem OpR.range1 {n : Int} : OpR C σ (.type "range") [.int n] (RngR 0 n 1) := fun A s Q vs hA O r hQ => by
  cases r with | cons r rs => cases rs; cases r; exact call_range_1 (hQ _ _ (Ext.grew fun _ _ e => Heap.get?_push_of_some _ e) (O.grew fun _ _ e => Heap.get?_push_of_some _ e) ⟨_, _, _, _, rfl, IsRange.new ..⟩)
theorem OpR.range3 {a b c : Int} (hc : c ≠ 0) (hp : Builtin.divisionGoesByPylong (b - a) c = false) : OpR C σ (.type "range") [.int a, .int b, .int c] (RngR a b c) := fun A s Q vs hA O r hQ => by
  cases r with | cons r rs => cases rs with | cons q rs => cases rs with | cons z rs => cases rs; cases r; cases q; cases z; exact call_range_3 hc (hQ _ _ (Ext.grew fun _ _ e => Heap.get?_push_of_some _ e) (O.grew fun _ _ e => Heap.get?_push_of_some _ e) ⟨_, _, _, _, rfl, IsRange.new ..⟩) (.inl hp)
theorem EvR.one {x : Str} {np p : Pos} {e : Expr} {n : Int} (hf : EvV C σ (.Name x np) (.type "range")) (he : EvE C σ e (.int n)) (hs : starEach [e] C.env = (false, eval e C.env) :: starEach [] C.env := by rfl) : EvR C σ (.Call (.Name x np) [e] [] p) 0 n 1 := EvR.call hf (.cons he .nil hs) .range1
theorem ItW.rangeN {iter : Expr} {N : Nat} (h : EvR C σ iter 0 (N : Int) 1) (hN : (N : Int) < 2 ^ 60) : ItW C σ iter N (fun i => .int i) := by
  have := ItW.range h (N := N) (by unfold Builtin.Range.small Builtin.Range.rangeFitsLong; rw [rangeSize_one]; split <;> simp <;> omega) (by rw [rangeSize_one]; split <;> omega)
  have e : (fun i : Nat => D.int (0 + (i : Int) * 1)) = fun i : Nat => D.int i := funext fun i => by simp
  rw [e] at this; exact this
-- and, or: values
theorem EvE.and_t {e₁ e₂ : Expr} {rest : List Expr} {p : Pos} {d : D} (h1 : EvE C σ e₁ (.bool true)) (h2 : EvE C σ (.BoolOp .And (e₂ :: rest) p) d) : EvE C σ (.BoolOp .And (e₁ :: e₂ :: rest) p) d := .mk fun A s Q hA O hQ => by
  refine BoolOp_and (h1.run A s _ hA O fun v s1 x1 O1 d1 => ?_)
  cases d1
  exact wpAny_truthy_bool (by rw [if_pos rfl]; exact h2.run A s1 _ hA O1 fun v s2 x2 O2 r => hQ v s2 (x1.trans' x2) O2 r)
theorem EvE.and_f {e₁ e₂ : Expr} {rest : List Expr} {p : Pos} (h1 : EvE C σ e₁ (.bool false)) : EvE C σ (.BoolOp .And (e₁ :: e₂ :: rest) p) (.bool false) := .mk fun A s Q hA O hQ => by
  refine BoolOp_and (h1.run A s _ hA O fun v s1 x1 O1 d1 => ?_)
  cases d1
  exact wpAny_truthy_bool (by rw [if_neg (by decide)]; exact hQ _ s1 x1 O1 (.bool _))
theorem EvE.and_1 {e : Expr} {p : Pos} {d : D} (h : EvE C σ e d) : EvE C σ (.BoolOp .And [e] p) d := .mk fun A s Q hA O hQ => BoolOp_one (h.run A s Q hA O hQ)
theorem EvE.not {e : Expr} {p : Pos} {c : Bool} (h : EvE C σ e (.bool c)) : EvE C σ (.UnaryOp .Not e p) (.bool (!c)) := .mk fun A s Q hA O hQ =>
  wpAny_UnaryOp (h.run A s _ hA O fun v s1 x1 O1 d1 => by
    cases d1
    exact not_value (wpAny_truthy_bool (hQ _ s1 x1 O1 (.bool _))))
end
end Mine
namespace MineP
open PySem.SeqAt
open PySem.AutoSeq1 (wpAny_loadPart')
open PySem.MeetsSeq PySem.MeetsSeq2 PySem.MeetsSeq3 PySem.SeqRoads2
/-- l > b, lists of whole numbers, as long as each other -/
noncomputable def gtL : List Int → List Int → Bool
  | a :: r, b :: q => if a = b then gtL r q else decide (a > b)
  | _, _ => false
theorem gt_loopM (l b : Addr) (items items2 : Array Value) (n n2 : Nat) (dd dd2 : Option Addr) (sl sl2 : Array (Option Value)) (hsz : items.size = items2.size) (f g : Nat → Int) (hf : ∀ i (h : i < items.size), ∃ t, items[i] = .int (f i) t) (hg : ∀ i (h : i < items2.size), ∃ t, items2[i] = .int (g i) t) (k : Nat) :
    ∀ i : Nat, items.size - i = k → Meets (Builtin.«list.__eq__.loop» ⟨[.ref l, .ref b, rawInt i, rawInt 4], []⟩)
      (fun A R s => s.heap.get? l = some { cls := .type "list", dict := dd, data := .seq items n, slots := sl } ∧ s.heap.get? b = some { cls := .type "list", dict := dd2, data := .seq items2 n2, slots := sl2 } ∧
        R (.ok (.ret (.bool (gtL (((List.range items.size).drop i).map f) (((List.range items.size).drop i).map g))))) s) := by
  induction k with
  | zero =>
    intro i hk prog w A R s h
    obtain ⟨hp, gg, d, tk, os⟩ := s; obtain ⟨hl, hb, h⟩ := h
    wp_walk using wpAny_loadPart' hl, wpAny_loadPart' hb
    have hi1 : items[((i : Nat) : Int).toNat]? = none := by simp; omega
    have hi2 : items2[((i : Nat) : Int).toNat]? = none := by simp; omega
    have hd : (List.range items.size).drop i = [] := by simp; omega
    rw [hd] at h
    rw [hi1, hi2]
    wp_walk using wpAny_loadPart' hl, wpAny_loadPart' hb
    show R (.ok (.ret (.bool (decide (items.size > items2.size))))) _
    rw [hsz]
    have : decide (items2.size > items2.size) = false := by simp
    rw [this]
    exact h
  | succ k ih =>
    intro i hk prog w A R s h
    obtain ⟨hp, gg, d, tk, os⟩ := s; obtain ⟨hl, hb, h⟩ := h
    wp_walk using wpAny_loadPart' hl, wpAny_loadPart' hb
    have hlt : i < items.size := by omega
    have hlt2 : i < items2.size := by omega
    have hi1 : items[((i : Nat) : Int).toNat]? = some items[i] := by simp [hlt]
    have hi2 : items2[((i : Nat) : Int).toNat]? = some items2[i] := by simp [hlt2]
    have hd : (List.range items.size).drop i = i :: (List.range items.size).drop (i + 1) := by simp [List.drop_eq_getElem_cons, hlt]
    have hc : ((i : Int) + 1) = ((i + 1 : Nat) : Int) := by push_cast; rfl
    obtain ⟨t1, e1⟩ := hf i hlt
    obtain ⟨t2, e2⟩ := hg i hlt2
    rw [hd, List.map_cons, List.map_cons, gtL] at h
    rw [hi1, hi2, e1, e2]
    refine wpAny_bind (EqAt.int_int (f i) t1 (g i) t2 prog w _ _ ?_)
    cases hb' : (f i == g i) with
    | true =>
      rw [if_pos (eq_of_beq hb')] at h
      wp_walk
      rw [hc]
      exact ⟨plainId_quiet plain_eq_loop _, codeAny_builtin entry_eq_loop (by
        rw [Around.under_plainId plain_eq_loop _]
        exact ih (i + 1) (by omega) prog w A R _ ⟨hl, hb, by simpa using h⟩)⟩
    | false =>
      rw [if_neg (fun q => by rw [q] at hb'; simp at hb')] at h
      wp_walk using wpAny_loadPart' hl, wpAny_loadPart' hb
      rw [hi1, hi2, e1, e2]
      show wpAny _ A.in1 (richCompare .Gt (.int (f i) t1) (.int (g i) t2) >>= _) _ _ _
      refine wpAny_bind (P.gt_int ?_)
      wp_walk
      exact h
theorem list_gtM (l b : Addr) (items items2 : Array Value) (n n2 : Nat) (dd dd2 : Option Addr) (sl sl2 : Array (Option Value)) (hsz : items.size = items2.size) (f g : Nat → Int) (hf : ∀ i (h : i < items.size), ∃ t, items[i] = .int (f i) t) (hg : ∀ i (h : i < items2.size), ∃ t, items2[i] = .int (g i) t) :
    Meets (Builtin.«list.__gt__» ⟨[.ref l, .ref b], []⟩)
      (fun A R s => s.heap.get? l = some { cls := .type "list", dict := dd, data := .seq items n, slots := sl } ∧ s.heap.get? b = some { cls := .type "list", dict := dd2, data := .seq items2 n2, slots := sl2 } ∧
        R (.ok (.ret (.bool (gtL ((List.range items.size).map f) ((List.range items.size).map g))))) s) := by
  intro prog w A R s h
  obtain ⟨hp, gg, d, tk, os⟩ := s; obtain ⟨hl, hb, h⟩ := h
  have f3 := AutoSeq1.sub_list_list
  wp_walk using wpAny_loadPart' hl, wpAny_loadPart' hb
  exact ⟨plainId_quiet plain_eq_loop _, codeAny_builtin entry_eq_loop (by
    rw [Around.under_plainId plain_eq_loop _]
    exact gt_loopM l b items items2 n n2 dd dd2 sl sl2 hsz f g hf hg _ 0 rfl prog w A R _ ⟨hl, hb, by simpa using h⟩)⟩
end MineP
namespace Mine
open MineP
open PySem.SeqAt
section
variable {C : Cx} {σ : Sig} {s s' s'' : Shared} {P : DF → Sig → Prop}
noncomputable abbrev iL (ns : List Int) : List D := ns.map .int
theorem dens_ints {W : List Addr} {h : Heap} : ∀ {vs : List Value} {ns : List Int}, Dens W h vs (iL ns) → vs.length = ns.length ∧ ∀ i (h : i < vs.length), ∃ t, vs[i] = .int (ns.getD i 0) t
  | [], [], _ => ⟨rfl, fun i h => absurd h (Nat.not_lt_zero i)⟩
  | [], _ :: _, r => nomatch r
  | _ :: _, [], r => nomatch r
  | v :: vs, n :: ns, .cons r rs => by
    obtain ⟨h1, h2⟩ := dens_ints rs
    cases r with
    | int _ t =>
    refine ⟨by simp [h1], fun i hi => ?_⟩
    cases i with
    | zero => exact ⟨t, rfl⟩
    | succ i => obtain ⟨t, e⟩ := h2 i (by simpa using hi); exact ⟨t, by simpa using e⟩
theorem range_getD (ns : List Int) : (List.range ns.length).map (fun i => ns.getD i 0) = ns := by
  apply List.ext_getElem (by simp)
  intro i h1 h2
  simp [List.getElem?_eq_getElem (show i < ns.length by simpa using h1)]
theorem OpB.gt_ints {xs ys : List Int} (hl : xs.length = ys.length) : OpB C σ (compareOp .Gt) (.list (iL xs)) (.list (iL ys)) (.bool (gtL xs ys)) := fun A s Q va vb hA O da db hQ => by
  cases da with
  | @list a vs _ na la ra =>
  cases db with
  | @list b ws _ nb lb rb =>
  obtain ⟨e1, f1⟩ := dens_ints ra
  obtain ⟨e2, f2⟩ := dens_ints rb
  obtain ⟨⟨cls, dd, data, sl⟩, ho, hc, n, hd⟩ := la
  obtain ⟨⟨cls2, dd2, data2, sl2⟩, ho2, hc2, n2, hd2⟩ := lb
  simp only at hc hd hc2 hd2
  subst hc hd hc2 hd2
  have hR : gtL ((List.range vs.toArray.size).map fun i => xs.getD i 0) ((List.range vs.toArray.size).map fun i => ys.getD i 0) = gtL xs ys := by
    rw [List.size_toArray, e1, range_getD, hl, range_getD]
  refine richCompare_meets_room (op := .Gt) ⟨_, ho, rfl⟩ ⟨_, ho2, rfl⟩ F.slot_list_gt F.entry_list_gt (F.args_list_gt_2 _ _) (list_gtM a b vs.toArray ws.toArray n n2 dd dd2 sl sl2 (by simp; omega) (fun i => xs.getD i 0) (fun i => ys.getD i 0) (fun i h => by simpa using f1 i (by simpa using h)) (fun i h => by simpa using f2 i (by simpa using h)))
    ⟨ho, ho2, ?_⟩ hA.units
  rw [hR]
  exact show Value.bool (gtL xs ys) ≠ Value.notImplemented ∧ Q (.bool (gtL xs ys)) s from ⟨(fun x => nomatch x), hQ _ s (Ext.refl _ _) O (.bool _)⟩
theorem OpB.eq_ints {xs ys : List Int} (hl : xs.length = ys.length) : OpB C σ (compareOp .Eq) (.list (iL xs)) (.list (iL ys)) (.bool (decide (xs = ys))) := fun A s Q va vb hA O da db hQ => by
  cases da with
  | @list a vs _ na la ra =>
  cases db with
  | @list b ws _ nb lb rb =>
  obtain ⟨e1, f1⟩ := dens_ints ra
  obtain ⟨e2, f2⟩ := dens_ints rb
  refine eq_listAt (e := fun j => xs.getD j 0 == ys.getD j 0) la lb (by simp; omega) hA.units (fun j h1 h2 => ?_) ?_
  · obtain ⟨t1, q1⟩ := f1 j (by simpa using h1)
    obtain ⟨t2, q2⟩ := f2 j (by simpa using h2)
    rw [List.getElem_toArray, List.getElem_toArray, q1, q2]
    exact EqAt.int_int _ _ _ _
  · have : ((List.range vs.toArray.size).all fun j => xs.getD j 0 == ys.getD j 0) = decide (xs = ys) := by
      rw [List.size_toArray, e1]
      rw [Bool.eq_iff_iff, List.all_eq_true, decide_eq_true_iff]
      constructor
      · intro h
        apply List.ext_getElem hl
        intro i h1 h2
        have := h i (by simpa using h1)
        simpa [List.getElem?_eq_getElem h1, List.getElem?_eq_getElem h2] using this
      · rintro rfl i _; simp
    rw [this]
    exact hQ _ s (Ext.refl _ _) O (.bool _)
theorem OpB.eq_nil {ds : List D} : OpB C σ (compareOp .Eq) (.list ds) (.list []) (.bool ds.isEmpty) := fun A s Q va vb hA O da db hQ => by
  cases da with
  | @list a vs _ na la ra =>
  cases db with
  | @list b ws _ nb lb rb =>
  cases rb
  have e1 := ra.length
  cases ds with
  | nil =>
    cases ra
    refine eq_listAt (e := fun j => true) la lb rfl hA.units (fun j h1 h2 => absurd h1 (by simp)) ?_
    exact hQ _ s (Ext.refl _ _) O (.bool _)
  | cons d ds =>
    refine eq_list_lengthsAt la lb ?_ hA.units ?_
    · simp only [List.length_cons] at e1
      simp [bne_iff_ne]
      intro h
      rw [h] at e1
      simp at e1
    · exact hQ _ s (Ext.refl _ _) O (.bool _)
end
end Mine
namespace Mine
open MineP
theorem lookup_map {α β : Type} {f : Str → α → β} : ∀ (l : List (Str × α)) (x : Str), (l.map fun p => (p.1, f p.1 p.2)).lookup x = (l.lookup x).map (f x)
  | [], _ => rfl
  | (y, k) :: r, x => by
    have ih := lookup_map (f := f) r x
    simp only [List.map_cons, List.lookup_cons]
    cases h : x == y with
    | true => rw [eq_of_beq h]; rfl
    | false => exact ih
theorem relabel_lookup (sc : Scope) (env : Env) (x : Str) : (relabel sc env).names.lookup x = (sc.names.lookup x).map fun k => if (k == .free && env.scope.kind == .function && env.kindOf x == some .cell) then .cell else k := by
  have e : (relabel sc env).names = sc.names.map fun p => (p.1, (fun n k => if (k == NameKind.free && env.scope.kind == .function && env.kindOf n == some .cell) then NameKind.cell else k) p.1 p.2) := by
    show sc.names.map _ = _
    apply List.map_congr_left
    rintro ⟨n, k⟩ _
    dsimp only
    split <;> rfl
  rw [e]
  exact lookup_map (f := fun n k => if (k == NameKind.free && env.scope.kind == .function && env.kindOf n == some .cell) then NameKind.cell else k) _ _
noncomputable def freesOf (sc : Scope) : List Str := (sc.names.filter fun p => p.2 == .free).map (·.1)
noncomputable def compCheck (sc : Scope) (x : Str) (frees globc : List Str) : Bool :=
  sc.kind == .function && (sc.names.all fun y => y.2 != .cell && (y.2 != .local || sc.names.lookup y.1 == some .local)) && sc.names.lookup x == some .local && freesOf sc == frees && decide frees.Nodup && !frees.contains x
    && (frees.all fun y => sc.names.lookup y == some .free && !(y == ("__debug__" : Str))) && (globc.all fun y => sc.names.lookup y == some .globalImplicit && !(y == ("__debug__" : Str))) && !(x == ("__debug__" : Str))
noncomputable def clOf (F : Fm) (frees : List Str) : List (Str × Addr) := (frees.map fun y => (y, F.cell y)).reverse
theorem closure_loop (env : Env) (cell : Str → Addr) : ∀ (names : List (Str × NameKind)) (acc : List (Str × Addr)), (∀ y ∈ (names.filter fun p => p.2 == .free).map (·.1), env.cells.lookup y = some (cell y)) →
    (forIn names acc fun (p : Str × NameKind) cs => (if p.2 == .free then (do let a ← cellOf env p.1; pure (ForInStep.yield ((p.1, a) :: cs))) else pure (ForInStep.yield cs) : Sem _)) = pure ((((names.filter fun p => p.2 == .free).map (·.1)).map fun y => (y, cell y)).reverse ++ acc)
  | [], acc, _ => rfl
  | (n, k) :: r, acc, h => by
    rw [List.forIn_cons]
    cases hk : k == NameKind.free with
    | true =>
      have e : (List.filter (fun p : Str × NameKind => p.2 == .free) ((n, k) :: r)) = (n, k) :: r.filter fun p => p.2 == .free := by
        rw [List.filter_cons]; exact if_pos hk
      rw [e] at h ⊢
      have hn := h n (.head _)
      have ih := closure_loop env cell r ((n, cell n) :: acc) fun y hy => h y (.tail _ hy)
      have ec : cellOf env n = pure (cell n) := by unfold cellOf; rw [hn]
      simp only [if_true, ec, pure_bind]
      rw [ih]
      simp
    | false =>
      have e : (List.filter (fun p : Str × NameKind => p.2 == .free) ((n, k) :: r)) = r.filter fun p => p.2 == .free := by
        rw [List.filter_cons]; exact if_neg (by rw [hk]; decide)
      rw [e] at h ⊢
      have ih := closure_loop env cell r acc h
      simp only [Bool.false_eq_true, if_false, pure_bind]
      exact ih
theorem closureFor_of {sc : Scope} {env : Env} (cell : Str → Addr) (h : ∀ y ∈ freesOf sc, env.cells.lookup y = some (cell y)) : closureFor sc env = pure ((freesOf sc).map fun y => (y, cell y)).reverse := by
  have := closure_loop env cell sc.names [] h
  rw [List.append_nil] at this
  unfold closureFor freesOf
  rw [← this]
  simp only [bind_pure]
inductive CSlots (lay : List (Str × Bool)) (σ : Sig) : List Str → Sig → Prop
  | nil : CSlots lay σ [] []
  | cons {y : Str} {ys : List Str} {i : Nat} {sl₀ sl : Slot} {σc : Sig} : lay[i]? = some (y, true) → σ[i]? = some (some sl₀) → Down sl₀ sl → CSlots lay σ ys σc → CSlots lay σ (y :: ys) (some sl :: σc)
  | skip {y : Str} {ys : List Str} {σc : Sig} : CSlots lay σ ys σc → CSlots lay σ (y :: ys) (none :: σc)
theorem CSlots.get {lay : List (Str × Bool)} {σ : Sig} {ys : List Str} {σc : Sig} (h : CSlots lay σ ys σc) : ∀ (j : Nat) y sl, (ys.map fun y => (y, true))[j]? = some (y, true) → σc[j]? = some (some sl) → ∃ (i : Nat) (sl₀ : Slot), lay[i]? = some (y, true) ∧ σ[i]? = some (some sl₀) ∧ Down sl₀ sl := by
  induction h with
  | nil => intro j y sl e; simp at e
  | @cons y ys i sl₀ sl σc h1 h2 h3 h4 ih =>
    intro j y' sl' e1 e2
    cases j with
    | zero => cases e1; cases e2; exact ⟨i, sl₀, h1, h2, h3⟩
    | succ j => exact ih j y' sl' (by simpa using e1) (by simpa using e2)
  | @skip y ys σc h ih =>
    intro j y' sl' e1 e2
    cases j with
    | zero => cases e2
    | succ j => exact ih j y' sl' (by simpa using e1) (by simpa using e2)
theorem CSlots.noOwn {lay : List (Str × Bool)} {σ : Sig} {ys : List Str} {σc : Sig} (h : CSlots lay σ ys σc) : noOwnB σc = true := by
  induction h with
  | nil => rfl
  | cons _ _ h3 _ ih => unfold noOwnB at ih ⊢; rw [List.all_cons, ih]; cases h3 <;> rfl
  | skip _ ih => unfold noOwnB at ih ⊢; rw [List.all_cons, ih]; rfl
theorem CSlots.length {lay : List (Str × Bool)} {σ : Sig} {ys : List Str} {σc : Sig} (h : CSlots lay σ ys σc) : σc.length = ys.length := by
  induction h with
  | nil => rfl
  | cons _ _ _ _ ih => simp [ih]
  | skip _ ih => simp [ih]
theorem clOf_lookup {F : Fm} : ∀ (frees : List Str), frees.Nodup → ∀ y ∈ frees, (clOf F frees).lookup y = some (F.cell y)
  | [], _, _, m => nomatch m
  | z :: r, nd, y, m => by
    obtain ⟨h1, h2⟩ := List.nodup_cons.mp nd
    unfold clOf
    rw [List.map_cons, List.reverse_cons, List.lookup_append]
    rcases List.mem_cons.mp m with rfl | m'
    · have : List.lookup y ((r.map fun y => (y, F.cell y)).reverse) = none := by
        rw [List.lookup_eq_none_iff]
        rintro ⟨a, b⟩ hq
        rw [bne_iff_ne]
        rintro rfl
        obtain ⟨w, hw, e⟩ := List.mem_map.mp (List.mem_reverse.mp hq)
        cases e
        exact h1 hw
      rw [this]; simp
    · have := clOf_lookup (F := F) r h2 y m'
      unfold clOf at this
      rw [this]; rfl
theorem CompF.of {C : Cx} {σ : Sig} {sc : Scope} {x : Str} {frees globc : List Str} {σc : Sig} (hF : FmOk C.F) (hck : compCheck sc x frees globc = true) (hcells : ∀ y ∈ frees, (y, true) ∈ C.F.lay) (hs : CSlots C.F.lay σ frees σc) :
    CompF C σ sc (clOf C.F frees) x (frees.map fun y => (y, true)) globc σc := by
  unfold compCheck at hck
  simp only [Bool.and_eq_true, List.all_eq_true, beq_iff_eq, Bool.not_eq_true', decide_eq_true_eq, bne_iff_ne, ne_eq, Bool.or_eq_true] at hck
  obtain ⟨⟨⟨⟨⟨⟨⟨⟨h1, h2⟩, h3⟩, h4⟩, h5⟩, h6⟩, h7⟩, h8⟩, h9⟩ := hck
  have ecell : ∀ y ∈ frees, C.env.cells.lookup y = some (C.F.cell y) := fun y m => by
    obtain ⟨c, ec⟩ := hF.cells _ (hcells y m) rfl
    show C.F.env.cells.lookup y = some ((C.F.env.cells.lookup y).getD 0)
    have ec' : C.F.env.cells.lookup y = some c := ec
    rw [ec']; rfl
  have kc : ∀ y ∈ frees, C.F.env.kindOf y = some .cell := fun y m => hF.names _ (hcells y m)
  refine ⟨?_, fun y hy => (h2 y hy).1, h1, fun y hy hl => ?_, fun L => ?_, fun p hp => ?_, hs.get, hs.noOwn, by rw [hs.length]; simp⟩
  · rw [closureFor_of C.F.cell (by rw [h4]; exact ecell), h4]; rfl
  · rcases (h2 y hy).2 with q | q
    · exact absurd hl q
    · exact q
  · have rk : ∀ y k, sc.names.lookup y = some k → k ≠ .free → (relabel sc C.env).names.lookup y = some k := fun y k e n => by
      rw [relabel_lookup, e]
      simp only [Option.map_some]
      rw [if_neg]
      intro q
      simp only [Bool.and_eq_true, beq_iff_eq] at q
      exact n q.1.1
    refine ⟨by show (relabel sc C.env).kind = _; exact h1, hF.glo, hF.bui, fun p hp => ?_, fun y hy => rk y _ (h8 y hy).1 (fun q => nomatch q), ?_, fun p hp e => ?_, fun a b ha hb e => ?_, fun p hp => ?_, fun y hy => (h8 y hy).2⟩
    · rcases List.mem_cons.mp hp with rfl | hp
      · exact rk x _ h3 (fun q => nomatch q)
      · obtain ⟨y, hy, rfl⟩ := List.mem_map.mp hp
        show (relabel sc C.env).names.lookup y = some .cell
        rw [relabel_lookup, (h7 y hy).1]
        simp only [Option.map_some]
        rw [if_pos]
        have : C.env.kindOf y = some .cell := kc y hy
        rw [this, show C.env.scope.kind = _ from hF.kind]; rfl
    · show ((x, false) :: frees.map fun y => (y, true)).map (·.1) |>.Nodup
      rw [List.map_cons, List.map_map]
      have : (frees.map ((fun p : Str × Bool => p.1) ∘ fun y => (y, true))) = frees := by simp [Function.comp_def]
      rw [this]
      refine List.nodup_cons.mpr ⟨fun m => ?_, h5⟩
      rw [List.contains_iff_mem.mpr m] at h6; cases h6
    · rcases List.mem_cons.mp hp with rfl | hp
      · cases e
      · obtain ⟨y, hy, rfl⟩ := List.mem_map.mp hp
        exact ⟨_, clOf_lookup frees h5 y hy⟩
    · have inF : ∀ a, (a, true) ∈ ((x, false) :: frees.map fun y => (y, true)) → a ∈ frees := fun a m => by
        rcases List.mem_cons.mp m with q | m
        · cases q
        · obtain ⟨y, hy, q⟩ := List.mem_map.mp m; cases q; exact hy
      have ea : ∀ a ∈ frees, Fm.cell ⟨compEnvC sc (clOf C.F frees) L C.env, (x, false) :: frees.map fun y => (y, true), globc⟩ a = C.F.cell a := fun a m => by
        show ((clOf C.F frees).lookup a).getD 0 = _
        rw [clOf_lookup frees h5 a m]; rfl
      rw [ea a (inF a ha), ea b (inF b hb)] at e
      exact hF.cellInj a b (hcells a (inF a ha)) (hcells b (inF b hb)) e
    · rcases List.mem_cons.mp hp with rfl | hp
      · exact h9
      · obtain ⟨y, hy, rfl⟩ := List.mem_map.mp hp; exact (h7 y hy).2
  · obtain ⟨y, hy, rfl⟩ := List.mem_map.mp hp
    exact ⟨rfl, hcells y hy, by rw [clOf_lookup frees h5 y hy, ecell y hy]⟩
theorem allIn {lay : List (Str × Bool)} {frees : List Str} (h : (frees.all fun y => lay.contains (y, true)) = true) : ∀ y ∈ frees, (y, true) ∈ lay := fun y m => List.contains_iff_mem.mp (List.all_eq_true.mp h y m)
noncomputable abbrev Cx.compX (C : Cx) (σ : Sig) (scope : Scope) (x : Str) (frees globc : List Str) (L Dl : Addr) : Cx := C.comp σ scope (clOf C.F frees) x (frees.map fun y => (y, true)) globc L Dl
theorem EvN.compX {C : Cx} {σ : Sig} {elt iter : Expr} {x : Str} {px : Pos} {ifs : List Expr} {scope : Scope} {pos : Pos} {frees globc : List Str} {σc : Sig} {N : Nat} {f g : Nat → D} {p : Nat → Bool} (hF : FmOk C.F) (cs : CSlots C.F.lay σ frees σc) (hi : ItW C σ iter N f)
    (ht : ∀ L Dl k, FmOk (C.compX σ scope x frees globc L Dl).F → k < N → TestsOk (C.compX σ scope x frees globc L Dl) (some (.val (f k)) :: σc) ifs (p k))
    (he : ∀ L Dl k, FmOk (C.compX σ scope x frees globc L Dl).F → k < N → p k = true → EvE (C.compX σ scope x frees globc L Dl) (some (.val (f k)) :: σc) elt (g k)) (hN : N ≤ 1000)
    (hck : compCheck scope x frees globc = true := by decide +kernel) (hcells : (frees.all fun y => C.F.lay.contains (y, true)) = true := by rfl) (hl : Nat.ble σ.length C.F.lay.length = true := by rfl)
    (hs : ∀ x, foldedSetIterable iter C.env x = pure x := by intro _; rfl) :
    EvN C σ (.ListComp elt [⟨.Name x px, iter, ifs, 0⟩] scope pos) (((List.range N).filter p).map g) :=
  have K := CompF.of (σ := σ) hF hck (allIn hcells) cs
  EvN.comp K hi (fun L Dl k hk => ht L Dl k (K.ok L) hk) (fun L Dl k hk hp => he L Dl k (K.ok L) hk hp) hN (Nat.le_of_ble_eq_true hl) hs
theorem WS.compX {C : Cx} {σ : Sig} {P : DF → Sig → Prop} {i : Nat} {y : Str} {py spos : Pos} {elt iter : Expr} {x : Str} {px : Pos} {ifs : List Expr} {scope : Scope} {pos : Pos} {frees globc : List Str} {σc : Sig} {N : Nat} {f g : Nat → D} {p : Nat → Bool} (hF : FmOk C.F) (e1 : C.F.lay[i]? = some (y, false)) (cs : CSlots C.F.lay σ frees σc) (hi : ItW C σ iter N f)
    (ht : ∀ L Dl k, FmOk (C.compX σ scope x frees globc L Dl).F → k < N → TestsOk (C.compX σ scope x frees globc L Dl) (some (.val (f k)) :: σc) ifs (p k))
    (he : ∀ L Dl k, FmOk (C.compX σ scope x frees globc L Dl).F → k < N → p k = true → EvE (C.compX σ scope x frees globc L Dl) (some (.val (f k)) :: σc) elt (g k)) (hN : N ≤ 1000)
    (k : P .next (σ.set i (some (.val (.list (((List.range N).filter p).map g))))))
    (hck : compCheck scope x frees globc = true := by decide +kernel) (hcells : (frees.all fun y => C.F.lay.contains (y, true)) = true := by rfl) (hl : Nat.ble σ.length C.F.lay.length = true := by rfl)
    (hsw : swapsWith (.ListComp elt [⟨.Name x px, iter, ifs, 0⟩] scope pos) (some (.Name y py)) spos.line C.env = pure true := by rfl)
    (hs : ∀ x, foldedSetIterable iter C.env x = pure x := by intro _; rfl) :
    WS C σ (exec (.Assign [.Name y py] (.ListComp elt [⟨.Name x px, iter, ifs, 0⟩] scope pos) spos) C.env) P :=
  have K := CompF.of (σ := σ) hF hck (allIn hcells) cs
  WS.assign_comp hF e1 K hi (fun L Dl k hk => ht L Dl k (K.ok L) hk) (fun L Dl k hk hp => he L Dl k (K.ok L) hk hp) hN (Nat.le_of_ble_eq_true hl) k hsw hs
end Mine
namespace Mine
open MineP
open PySem.Builtin.Str (strSliceIndices)
noncomputable def cutL {α : Type} (xs : List α) (l u : Option Int) : List α := (xs.drop (kms_lo l xs.length)).take (kms_hi u xs.length - kms_lo l xs.length)
noncomputable def cut (x : Str) (l u : Option Int) : Str := ⟨(cutL x.cps.toList l u).toArray⟩
theorem idx_eq (l u : Option Int) (n : Nat) : strSliceIndices l u 1 n = (List.range (kms_hi u n - kms_lo l n)).map (fun k => kms_lo l n + k) := by
  have hl : kms_lo l n ≤ n := by unfold kms_lo; split <;> (try split) <;> omega
  have hu : kms_hi u n ≤ n := by unfold kms_hi; split <;> (try split) <;> omega
  have e : strSliceIndices l u 1 n = strSliceIndices (some (kms_lo l n : Nat)) (some (kms_hi u n : Nat)) 1 n := by
    have h1 : (1 : Int) > 0 := by decide
    have a1 : ∀ v : Nat, v ≤ n → max (0 : Int) (min (if (v : Int) < 0 then (v : Int) + n else v) n) = v := fun v hv => by
      rw [if_neg (by omega)]; omega
    unfold strSliceIndices
    simp only [h1, if_true, a1 _ hl, a1 _ hu]
    congr 1
    · cases l with
      | none => rfl
      | some x => simp only [kms_lo]; split <;> omega
    · cases u with
      | none => rfl
      | some x => simp only [kms_hi]; split <;> omega
  rw [e]
  by_cases h : kms_lo l n ≤ kms_hi u n
  · exact StrLaws.strSliceIndices_plain h hu
  · have : kms_hi u n - kms_lo l n = 0 := by omega
    rw [this]
    unfold strSliceIndices sliceRange
    simp only [show (1 : Int) > 0 by decide, if_true]
    rw [if_neg (show ¬ ((kms_lo l n : Nat) : Int) < 0 by omega), if_neg (show ¬ ((kms_hi u n : Nat) : Int) < 0 by omega), if_neg (by omega)]
    rfl
theorem picks_eq (x : Str) (l u : Option Int) : (strSliceIndices l u 1 x.length).filterMap (x.cps[·]?) = cutL x.cps.toList l u := by
  have hl : kms_lo l x.length ≤ x.length := by unfold kms_lo; split <;> (try split) <;> omega
  have hu : kms_hi u x.length ≤ x.length := by unfold kms_hi; split <;> (try split) <;> omega
  rw [idx_eq]
  have e : x.cps.toList.length = x.length := by simp [Str.length]
  unfold cutL
  rw [e]
  by_cases h : kms_lo l x.length ≤ kms_hi u x.length
  · rw [← StrLaws.strSliceIndices_plain h hu]; exact StrLaws.sliced_plain x h hu
  · have : kms_hi u x.length - kms_lo l x.length = 0 := by omega
    rw [this]; simp
theorem slice_eq (x : Str) (l u : Option Int) : Txt.slice x l u = cut x l u := by
  unfold Txt.slice cut
  rw [picks_eq]
  split
  · rename_i h
    have h : (strSliceIndices l u 1 x.length).length = x.length := by simpa using h
    rw [idx_eq] at h
    have hl : kms_lo l x.length ≤ x.length := by unfold kms_lo; split <;> (try split) <;> omega
    have hu : kms_hi u x.length ≤ x.length := by unfold kms_hi; split <;> (try split) <;> omega
    rw [List.length_map, List.length_range] at h
    have e : x.cps.toList.length = x.length := by simp [Str.length]
    have h0 : kms_lo l x.length = 0 := by omega
    have h1 : kms_hi u x.length = x.length := by omega
    unfold cutL
    rw [e, h0, h1, List.drop_zero, Nat.sub_zero, ← e, List.take_length]
  · rfl
section
variable {C : Cx} {σ : Sig} {s s' s'' : Shared} {P : DF → Sig → Prop}
theorem EvE.to {e : Expr} {d d' : D} (h : EvE C σ e d) (q : d = d') : EvE C σ e d' := q ▸ h
theorem EvT.to {e : Expr} {d d' : Bool} (h : EvT C σ e d) (q : d = d') : EvT C σ e d' := q ▸ h
theorem OpB.to {f : Value → Value → Sem Value} {a b d d' : D} (h : OpB C σ f a b d) (q : d = d') : OpB C σ f a b d' := q ▸ h
theorem EvN.to {e : Expr} {d d' : List D} (h : EvN C σ e d) (q : d = d') : EvN C σ e d' := q ▸ h
theorem FnS.to {X : Wd} {n : Nat} {f : Value} {ds : List D} {d d' : D} (h : FnS X n f ds d) (q : d = d') : FnS X n f ds d' := q ▸ h
theorem EvE.slice {value : Expr} {lo up : Option Expr} {sp p : Pos} {x : Str} {l u : Option Int} (h1 : EvE C σ value (.str x)) (h2 : EvO C σ lo l) (h3 : EvO C σ up u) (hz : x.length ≤ sizeLine) : EvE C σ (.Subscript value (.Slice lo up none sp) p) (.str (cut x l u)) := by
  refine EvE.slice_str h1 h2 h3 fun l' u' t e1 e2 Q s hQ => ?_
  have := post_val_or_str (y := x) (t := t) (c := ((1 : Int) == 1 && (strSliceIndices l u 1 x.length).length == x.length) = true) (z := ⟨((strSliceIndices l u 1 x.length).filterMap (x.cps[·]?)).toArray⟩) (Q := Q) (s := s) ⟨Nat.le_trans (Txt.slice_le x l u) hz, fun t' k => by
    show Q (.str (Txt.slice x l u) t') _
    rw [slice_eq]; exact hQ t' k⟩
  unfold sliceMade slicePicked
  rw [e1, e2]
  exact this
theorem EvN.slice {value : Expr} {lo up : Option Expr} {sp p : Pos} {ds : List D} {l u : Option Int} (h1 : EvL C σ value ds) (h2 : EvO C σ lo l) (h3 : EvO C σ up u) (hz : ds.length ≤ sizeLine) : EvN C σ (.Subscript value (.Slice lo up none sp) p) (cutL ds l u) :=
  EvN.slice_list h1 h2 h3 hz fun W h vs r => ⟨cutL vs l u, by rw [kms_pick_eq]; rfl, by
    unfold cutL
    rw [r.length]
    exact (r.drop _).take _⟩
theorem EvE.item_str_neg {value slice : Expr} {p : Pos} {x : Str} {i : Int} {c : Nat} (h1 : EvE C σ value (.str x)) (h2 : EvE C σ slice (.int i)) (h0 : i < 0) (hi : -(x.length : Int) ≤ i) (hx : x.length < 2 ^ 60) (hd : x.cps[(i + x.length).toNat]? = some c) : EvE C σ (.Subscript value slice p) (.str ⟨#[c]⟩) := .mk fun A s Q hA O hQ =>
  Subscript_ (h1.run A s _ hA O fun o s1 x1 O1 r1 => h2.run A s1 _ hA O1 fun iv s2 x2 O2 r2 => by
    cases r1; cases r2
    refine tail_gen (T := "str") (typeIs_str _ _ _) F.slot_str_getitem.lookup (P.getItem_str (by simp; omega) (c := c) ?_ (hQ _ _ ((x1.trans' x2).trans' Ext.toks) O2.toks (.str _ _)))
    have e : seqIndex? i x.length = some (i + x.length).toNat := by
      unfold seqIndex?
      simp only [if_pos h0]
      rw [if_pos (by simp only [Bool.and_eq_true, decide_eq_true_eq]; omega)]
    rw [e]; exact hd)
-- whole numbers not below zero
theorem OpB.add_nat {a b : Nat} : OpB C σ (binaryOp .Add) (.int a) (.int b) (.int ((a + b : Nat) : Int)) := OpB.add_int
theorem OpB.mul_nat {a b : Nat} (h : IntMulOk a b) : OpB C σ (binaryOp .Mult) (.int a) (.int b) (.int ((a * b : Nat) : Int)) := OpB.mul_int h
theorem OpB.div_nat {a b : Nat} (h : b ≠ 0) (hb : b < 1073741824) : OpB C σ (binaryOp .FloorDiv) (.int a) (.int b) (.int ((a / b : Nat) : Int)) := (OpB.div_int (by omega) (PyProof.noPylong_small (by omega))).to (by rw [Int.ofNat_fdiv])
theorem OpB.mod_nat {a b : Nat} (h : b ≠ 0) : OpB C σ (binaryOp .Mod) (.int a) (.int b) (.int ((a % b : Nat) : Int)) := (OpB.mod_int (by omega)).to (by rw [Int.ofNat_fmod])
theorem EvE.ifexp {t e f : Expr} {p : Pos} {c : Bool} {d : D} (h : EvT C σ t c) (k1 : c = true → EvE C σ e d) (k2 : c = false → EvE C σ f d) : EvE C σ (.IfExp t e f p) d := by
  cases c with
  | true => exact EvE.ifexp_t h (k1 rfl)
  | false => exact EvE.ifexp_f h (k2 rfl)
end
end Mine
namespace Mine
open MineP
section
variable {X : Wd} {F : Fm} {Wo : List Addr} {σ : Sig} {s s' : Shared}
mutual
theorem den_upW {h h' : Heap} {W W' : List Addr} (k : ∀ a o, a ∉ W → h.get? a = some o → ¬ Inert o → h'.get? a = some o) (hw : ∀ a, a ∈ W' → a ∈ W ∨ h.get? a = none) : ∀ {v : Value} {d : D}, Den W h v d → Den W' h' v d
  | _, _, .none => .none
  | _, _, .bool b => .bool b
  | _, _, .int i t => .int i t
  | _, _, .str x t => .str x t
  | _, _, .list n l r => .list (fun m => (hw _ m).elim n fun q => by obtain ⟨o, ho, _⟩ := l; rw [ho] at q; cases q) (let ⟨o, e, c, j, d⟩ := l; ⟨o, k _ _ n e (not_inert fun vs q => by rw [d] at q; cases q), c, j, d⟩) (dens_upW k hw r)
  | _, _, .tuple n l r => .tuple (fun m => (hw _ m).elim n fun q => by obtain ⟨o, ho, _⟩ := l; rw [ho] at q; cases q) (let ⟨o, e, c, j, d⟩ := l; ⟨o, k _ _ n e (not_inert fun vs q => by rw [d] at q; cases q), c, j, d⟩) (dens_upW k hw r)
  | _, _, .obj n l => .obj (fun m => (hw _ m).elim n fun q => by rw [l] at q; cases q) (k _ _ n l (not_inert fun vs q => by cases q))
  | _, _, .typ T => .typ T
theorem dens_upW {h h' : Heap} {W W' : List Addr} (k : ∀ a o, a ∉ W → h.get? a = some o → ¬ Inert o → h'.get? a = some o) (hw : ∀ a, a ∈ W' → a ∈ W ∨ h.get? a = none) : ∀ {vs : List Value} {ds : List D}, Dens W h vs ds → Dens W' h' vs ds
  | _, _, .nil => .nil
  | _, _, .cons r rs => .cons (den_upW k hw r) (dens_upW k hw rs)
end
noncomputable def Soft (Wo : List Addr) (a : Addr) (o : Obj) : Prop := Inert o ∨ (a ∈ Wo ∧ o.cls ≠ .type "list")
/-- writes at objects that no value of the state leans on -/
theorem Ok.extWo' {W' Wo2 : List Addr} (O : Ok X F Wo σ s) (sub : ∀ a ∈ Wo2, a ∈ Wo) (k : ∀ a o, a ∉ W' → s.heap.get? a = some o → s'.heap.get? a = some o) (ht : ∀ a ∈ Wo2, ∃ o, s'.heap.get? a = some o) (hr : ∀ a ∈ W', a ∉ Mine.Wr X F σ) (hW : ∀ a ∈ W', ∀ o, s.heap.get? a = some o → Soft Wo a o) (b : Bs X s') : Ok X F Wo2 σ s' := by
  have sW : ∀ a, a ∈ Wo2 ++ Mine.Wr X F σ → a ∈ Wo ++ Mine.Wr X F σ := fun a m => (List.mem_append.mp m).elim (fun q => List.mem_append_left _ (sub a q)) (List.mem_append_right _)
  have kW : ∀ a o, a ∉ Wo ++ Mine.Wr X F σ → s.heap.get? a = some o → ¬ Inert o → s'.heap.get? a = some o := fun a o n e i => k a o (fun m => by
    rcases hW a m o e with q | q
    · exact i q
    · exact n (List.mem_append_left _ q.1)) e
  have kR : ∀ a o, a ∈ Mine.Wr X F σ → s.heap.get? a = some o → s'.heap.get? a = some o := fun a o m e => k a o (fun m' => hr a m' m) e
  have kL : ∀ a its, s.heap.IsList a its → s'.heap.IsList a its := fun a its ⟨o, e, c, j, d⟩ => ⟨o, k a o (fun m => by
    rcases hW a m o e with q | q
    · exact not_inert (fun vs z => by rw [d] at z; cases z) q
    · exact q.2 c) e, c, j, d⟩
  have inL : ∀ a, a ∈ F.env.locals :: F.cellAs → a ∈ Mine.Wr X F σ := fun a m => .tail _ <| by
    rcases List.mem_cons.mp m with rfl | m
    · exact .head _
    · exact .tail _ (List.mem_append_left _ m)
  obtain ⟨m, ⟨o, es, ep, e, d, r⟩, hv⟩ := O.vars
  refine ⟨b, ⟨m, ⟨o, es, ep, kR _ _ (inL _ (.head _)) e, d, r⟩, fun i y c sl h1 h2 => ?_⟩, fun y hy => ?_, fun i a ds e => ?_, fun a m => O.fresh a (sW a m), ht, O.owns, fun a m n => O.ownOut a m (sub a n)⟩
  · obtain ⟨v, hh, hs⟩ := hv i y c sl h1 h2
    refine ⟨v, ?_, ?_⟩
    · cases c with
      | false => exact hh
      | true => obtain ⟨o, e, d⟩ := hh; exact ⟨o, kR _ _ (inL _ (.tail _ (mem_cell (List.mem_of_getElem? h1)))) e, d⟩
    · cases sl with
      | val d => exact den_upW kW (fun a m => .inl (sW a m)) hs
      | own a ds => obtain ⟨ev, vs, ⟨n, p⟩, r⟩ := hs; exact ⟨ev, vs, ⟨n, kR _ _ (.tail _ (.tail _ (List.mem_append_right _ (mem_own h2)))) p⟩, dens_upW kW (fun a m => .inl (sW a m)) r⟩
      | app a => obtain ⟨q, ev, n, g⟩ := hs; exact ⟨q, ev, fun m => n (sW _ m), kW _ _ n g (fun i => i.2 rfl)⟩
      | ro a ds => obtain ⟨ev, vs, l, r⟩ := hs; exact ⟨ev, vs, kL _ _ l, dens_upW kW (fun a m => .inl (sW a m)) r⟩
  · obtain ⟨v, o, e, d⟩ := O.cells y hy
    exact ⟨v, o, kR _ _ (inL _ (.tail _ (mem_cell hy))) e, d⟩
  · obtain ⟨its, n, p⟩ := O.lists i a ds e
    exact ⟨its, n, kR _ _ (.tail _ (.tail _ (List.mem_append_right _ (mem_own e)))) p⟩
theorem Ok.extWo {W' : List Addr} (O : Ok X F Wo σ s) (x : Ext W' s s') (hr : ∀ a ∈ W', a ∉ Mine.Wr X F σ) (hW : ∀ a ∈ W', ∀ o, s.heap.get? a = some o → Soft Wo a o) (b : Bs X s') : Ok X F Wo σ s' :=
  O.extWo' (fun a m => m) x.keep (fun a ha => let ⟨o, e⟩ := O.there a ha; x.dom a o e) hr hW b
end
section
variable {C : Cx} {σ : Sig} {s s' s'' : Shared} {P : DF → Sig → Prop}
noncomputable abbrev Cx.more (C : Cx) (bs : List Addr) : Cx := { C with Wo := bs ++ C.Wo }
structure ItPX (C : Cx) (bs : List Addr) (σ₀ : Sig) (s₀ : Shared) (tgt : Expr) (it : Value) (N : Nat) (upd : Nat → Sig → Sig) (Nx : Nat → Shared → Prop) (fp wr : List Addr) : Prop where
  frame : ∀ i s s', Nx i s → (∀ a ∈ fp, ∀ o, s.heap.get? a = some o → s'.heap.get? a = some o) → Nx i s'
  item : ∀ (A : Around) (i : Nat) (σ' : Sig) (s : Shared) (Q : Unit → Shared → Prop), AOk C.n A → i < N → (C.more bs).Ok σ' s → Sub C σ₀ σ' s₀ → Ext (wr ++ C.Wr σ₀) s₀ s → (∀ a ∈ fp, a ∉ C.Wr σ') → Nx i s →
    (∀ s', (C.more bs).Ok (upd i σ') s' → Nx (i + 1) s' → Ext (wr ++ C.Wr σ') s s' → Q () s') →
    wpAny C.X.M A (pyNext it) (fun r s₁ => ∃ v, r = some v ∧ wpAny C.X.M A (letOwnedTupleGo tgt it v) (fun _ s₁' => wpAny C.X.M A (assign tgt C.env v) Q NE s₁') NE s₁) NE s
  done : ∀ (A : Around) (σ' : Sig) (s : Shared) (Q : Option Value → Shared → Prop), AOk C.n A → (C.more bs).Ok σ' s → (∀ a ∈ fp, a ∉ C.Wr σ') → Nx N s → (∀ s', C.Ok σ' s' → (∀ a o, a ∉ wr → s.heap.get? a = some o → s'.heap.get? a = some o) → s'.os = s.os → Q none s') → wpAny C.X.M A (pyNext it) Q NE s
  own : ∀ i σ', ∀ a, a ∈ ownAs (upd i σ') → a ∈ ownAs σ'
noncomputable def EvItX (C : Cx) (σ : Sig) (iter tgt : Expr) (N : Nat) (upd : Nat → Sig → Sig) : Prop :=
  ∀ (A : Around) (s : Shared) (Q : Value → Shared → Prop), AOk C.n A → C.Ok σ s →
    (∀ it s' (Nx : Nat → Shared → Prop) (fp wr bs : List Addr), Ext [C.X.T] s s' → (C.more bs).Ok σ s' → ItPX C bs σ s' tgt it N upd Nx fp wr → Nx 0 s' → (∀ a ∈ fp, a ∉ C.W σ ∧ ∃ o, s'.heap.get? a = some o) → (∀ a ∈ wr, a ∈ fp ∧ s.heap.get? a = none) → Q it s') →
    wpAny C.X.M A (eval iter C.env) (fun x s1 => wpAny C.X.M A (pyIter x) Q NE s1) NE s
theorem WS.forX {tgt iter : Expr} {body orelse : List Stmt} {p : Pos} {N : Nat} {upd : Nat → Sig → Sig} (Inv : Nat → Sig → Prop) (hI : EvItX C σ iter tgt N upd) (h0 : Inv 0 σ)
    (step : ∀ bs i σ', i < N → Inv i σ' → WS (C.more bs) (upd i σ') (execs body C.env) (ForP Inv i P)) (done : ∀ σ', Inv N σ' → WS C σ' (execs orelse C.env) P) (hs : ∀ x, foldedSetIterable iter C.env x = pure x := by intro _; rfl) :
    WS C σ (exec (.For tgt iter body orelse p) C.env) P := .mk fun A s Q hA O hQ => by
  refine wpAny_For (hI A s _ hA O fun it s0 Nx fp wr bs x0 O0 ip n0 hfp hwr => ?_) hs
  let C' := C.more bs
  have fin : ∀ {fl df σ' s'}, P df σ' → C'.Ok σ' s' → Ext (C.Wr σ) s s' → Sub C σ σ' s → FlOk C'.Wo s'.heap fl df → Q fl s' := fun {fl df σ' s'} p O' x b f => hQ fl df σ' s' p (O'.less fun a m => List.mem_append_right _ m) x b (by
    cases df <;> cases fl <;> first | exact f.elim | trivial | exact Den.sub f fun a m => List.mem_append_right _ m)
  have hwrN : ∀ a ∈ wr, s.heap.get? a = none := fun a m => (hwr a m).2
  have toS : ∀ {s'}, Ext (wr ++ C.Wr σ) s0 s' → Ext (C.Wr σ) s s' := fun x => (x0.ofT (C := C) (σ := σ)).trans x fun a m => (List.mem_append.mp m).elim (fun q => .inr (hwrN a q)) .inl
  have off : ∀ {σ'}, Sub C' σ σ' s0 → ∀ a ∈ fp, a ∉ C.Wr σ' := fun b a m q => (b a q).elim (fun z => (hfp a m).1 (List.mem_append_right _ z)) fun z => by obtain ⟨o, e⟩ := (hfp a m).2; rw [z] at e; cases e
  refine codeAny_forLoop_any (fun k s' => ∃ i σ', k = N + 1 - i ∧ i ≤ N ∧ Inv i σ' ∧ C'.Ok σ' s' ∧ Nx i s' ∧ Ext (wr ++ C.Wr σ) s0 s' ∧ Sub C' σ σ' s0) ?_ (N + 1) ⟨0, σ, rfl, Nat.zero_le _, h0, O0, n0, Ext.refl _ _, .refl⟩
  rintro k s1 ⟨i, σ1, rfl, hi, hInv, O1, n1, x1, b1⟩
  by_cases hlt : i < N
  · let BQ : Unit → Shared → Prop := fun _ s2 => wpAny C.X.M A (execs body C.env) (fun f s₃ => match f with
            | .next => ∃ m, m < N + 1 - i ∧ ∃ i σ', m = N + 1 - i ∧ i ≤ N ∧ Inv i σ' ∧ C'.Ok σ' s₃ ∧ Nx i s₃ ∧ Ext (wr ++ C.Wr σ) s0 s₃ ∧ Sub C' σ σ' s0
            | .cont => ∃ m, m < N + 1 - i ∧ ∃ i σ', m = N + 1 - i ∧ i ≤ N ∧ Inv i σ' ∧ C'.Ok σ' s₃ ∧ Nx i s₃ ∧ Ext (wr ++ C.Wr σ) s0 s₃ ∧ Sub C' σ σ' s0
            | .brk => Q .next s₃
            | .ret v => Q (.ret v) s₃) NE s2
    have key := ip.item A i σ1 s1 BQ hA hlt O1 b1 x1 (off b1) n1 fun s2 O2 n2 x2 => ?_
    · refine wpAny_mono key (fun r s2 q => ?_) (fun _ _ q => q.elim)
      obtain ⟨v, rfl, q⟩ := q
      exact wpAny_mono q (fun _ s3 q3 => wpAny_mono q3 (fun _ s4 q4 => wpAny_mono q4 (fun f s5 q5 => by cases f <;> exact q5) fun _ _ q => q.elim) fun _ _ q => q.elim) fun _ _ q => q.elim
    · have b2 : Sub C' σ (upd i σ1) s0 := fun a m => b1 a (Wr_sub (C := C') (ip.own i σ1) a m)
      have x12 : Ext (wr ++ C.Wr σ) s0 s2 := x1.trans x2 fun a m => by
        rcases List.mem_append.mp m with m | m
        · exact .inl (List.mem_append_left _ m)
        · exact (b1 a m).imp (List.mem_append_right _) id
      refine wpAny_mono ((step bs i _ hlt hInv).run A s2 _ hA O2 fun fl df σ3 s3 p3 O3 x3 b3 f3 => ?_) (fun _ _ q => q) (fun _ _ q => q.elim)
      have x13 : Ext (wr ++ C.Wr σ) s0 s3 := x12.trans x3 fun a m => (b2 a m).imp (List.mem_append_right _) id
      have b13 : Sub C' σ σ3 s0 := b2.trans x12 b3
      have n3 : Nx (i + 1) s3 := ip.frame _ _ _ n2 fun a m o e => x3.keep a o (off b2 a m) e
      have bS : Sub C σ σ3 s := fun a m => (b13 a m).imp id fun e => x0.none e
      cases df with
      | next => cases fl <;> first | exact f3.elim | exact ⟨N + 1 - (i + 1), by omega, i + 1, σ3, rfl, hlt, p3, O3, n3, x13, b13⟩
      | cont => cases fl <;> first | exact f3.elim | exact ⟨N + 1 - (i + 1), by omega, i + 1, σ3, rfl, hlt, p3, O3, n3, x13, b13⟩
      | brk => cases fl <;> first | exact f3.elim | exact fin (fl := .next) (df := .next) p3 O3 (toS x13) bS trivial
      | ret d => cases fl <;> first | exact f3.elim | exact fin p3 O3 (toS x13) bS f3
  · have hN : i = N := by omega
    subst hN
    refine wpAny_mono (ip.done A σ1 s1 (fun r s2 => r = none ∧ C.Ok σ1 s2 ∧ (∀ a o, a ∉ wr → s1.heap.get? a = some o → s2.heap.get? a = some o) ∧ s2.os = s1.os) hA O1 (off b1) n1 fun s2 O2 k2 o2 => ⟨rfl, O2, k2, o2⟩) (fun r s2 ⟨e, O2, k2, o2⟩ => ?_) (fun _ _ q => q.elim)
    subst e
    have x1S : Ext (C.Wr σ) s s1 := toS x1
    have b1S : Sub C σ σ1 s := fun a m => (b1 a m).imp id fun e => x0.none e
    have x2S : Ext (C.Wr σ) s s2 := ⟨fun a o n e => k2 a o (fun m => by rw [hwrN a m] at e; cases e) (x1S.keep a o n e), fun a o e => let ⟨o', e'⟩ := x1S.dom a o e; ⟨o', k2 a o' (fun m => by rw [hwrN a m] at e; cases e) e'⟩, o2.trans x1S.os⟩
    refine wpAny_mono ((done σ1 hInv).run A s2 _ hA O2 fun fl df σ3 s3 p3 O3 x3 b3 f3 => ?_) (fun _ _ q => q) (fun _ _ q => q.elim)
    exact hQ fl df σ3 s3 p3 O3 (x2S.trans x3 b1S) (Sub.trans b1S x2S b3) f3
/-- iterators of pairs, told by the library's walks -/
structure ItOkT (C : Cx) (σ : Sig) (s s' : Shared) (I : Addr) (fp wr bs : List Addr) (N : Nat) (f : Nat → List D) (Pt : Nat → Array Value → Prop) (St : Nat → Heap → Prop) (Mid : Nat → Addr → Heap → Prop) : Prop where
  walks : ∀ A' : Around, A'.handled = none → WalksT C.X.prog C.X.w A' I fp wr N Pt St Mid
  st : St 0 s'.heap
  fpOk : ∀ a ∈ fp, a ∉ C.W σ ∧ ∃ o, s'.heap.get? a = some o
  wrOk : ∀ a ∈ wr, a ∈ fp ∧ s.heap.get? a = none
  bsOk : ∀ a ∈ bs, a ∈ wr
  live : ∀ i h, (St i h ∨ ∃ T, Mid i T h) → ∀ b ∈ wr, ∃ o, h.get? b = some o ∧ Soft bs b o
  den : ∀ i vals, Pt i vals → i < N → Dens (wr ++ C.W σ) s'.heap vals.toList (f i)
noncomputable def ItT (C : Cx) (σ : Sig) (iter : Expr) (N : Nat) (f : Nat → List D) : Prop :=
  ∀ (A : Around) (s : Shared) (Q : Value → Shared → Prop), AOk C.n A → C.Ok σ s →
    (∀ I s' fp wr bs Pt St Mid, Ext [C.X.T] s s' → C.Ok σ s' → ItOkT C σ s s' I fp wr bs N f Pt St Mid → Q (.ref I) s') → wpAny C.X.M A (eval iter C.env) (fun x s1 => wpAny C.X.M A (pyIter x) Q NE s1) NE s
theorem EvItX.walkT {iter : Expr} {elts : List Expr} {kt : Nat} {pt : Pos} {N : Nat} {f : Nat → List D} {upd : Nat → Sig → Sig} (h : ItT C σ iter N f) (ha : ∀ bs i, i < N → Asg (C.more bs) (.Tuple elts kt pt) (.tuple (f i)) (upd i)) (ho : ∀ i σ', ∀ a, a ∈ ownAs (upd i σ') → a ∈ ownAs σ') : EvItX C σ iter (.Tuple elts kt pt) N upd := fun A s Q hA O hQ =>
  h A s Q hA O fun I s0 fp wr bs Pt St Mid x0 O0 K => by
    let C' := C.more bs
    have wrHb : ∀ a ∈ wr, C.X.hb.get? a = none := fun a m => by
      cases q : C.X.hb.get? a with
      | none => rfl
      | some o => have := O.bs.le a o q; rw [(K.wrOk a m).2] at this; cases this
    have wrT : C.X.T ∉ wr := fun m => (K.fpOk _ (K.wrOk _ m).1).1 mem_T
    have O0' : C'.Ok σ s0 := O.growOff (W' := [C.X.T]) (fun a o n e => x0.keep a o n e) O.bs.inertT (fun a m => let ⟨o, e⟩ := O.there a m; x0.dom a o e) (fun b m => ⟨(K.wrOk b (K.bsOk b m)).2, (K.fpOk b (K.wrOk b (K.bsOk b m)).1).2⟩) O0.bs
    have live : ∀ {i : Nat} {h : Heap}, (St i h ∨ ∃ T, Mid i T h) → ∀ b ∈ wr, ∀ o, h.get? b = some o → Soft C'.Wo b o := fun st b m o e => by
      obtain ⟨o', e', q⟩ := K.live _ _ st b m
      rw [e] at e'; cases e'
      exact q.imp id fun z => ⟨List.mem_append_left _ z.1, z.2⟩
    -- a step of the iterator
    have stp : ∀ {i : Nat} {σ' : Sig} {s1 : Shared} {h' : Heap} {tk : Nat}, C'.Ok σ' s1 → (St i s1.heap ∨ ∃ T, Mid i T s1.heap) → (∀ a ∈ fp, a ∉ C.Wr σ') → (∀ b ∈ wr, ∃ o, h'.get? b = some o) → (∀ b o, b ∉ wr → s1.heap.get? b = some o → h'.get? b = some o) →
        C'.Ok σ' { s1 with heap := h', toks := tk } ∧ Ext wr s1 { s1 with heap := h', toks := tk } := by
      intro i σ' s1 h' tk O1 st off hl hk
      have x : Ext wr s1 { s1 with heap := h', toks := tk } := ⟨fun b o n e => hk b o n e, fun b o e => by
        by_cases m : b ∈ wr
        · exact hl b m
        · exact ⟨o, hk b o m e⟩, rfl⟩
      exact ⟨O1.extWo x (fun a m => off a (K.wrOk a m).1) (fun b m o e => live st b m o e) (O1.bs.keepOff x wrHb wrT rfl), x⟩
    refine hQ (.ref I) s0 (fun i s => St i s.heap) fp wr bs x0 O0' ⟨fun i s1 s2 st k => (K.walks { handled := none } rfl).frame i _ _ st k, ?_, ?_, ho⟩ K.st K.fpOk K.wrOk
    · intro A' i σ' s1 Q' hA' hi O1 b1 x1 off st hQ'
      refine (K.walks A' hA'.1).item i s1 _ NE hi st fun T vals h' tk hPt hT hTup hMid hk => ⟨_, rfl, ?_⟩
      obtain ⟨O2, x2⟩ := stp (tk := tk) O1 (.inl st) off (fun b m => let ⟨o, e, _⟩ := K.live i _ (.inr ⟨T, hMid⟩) b m; ⟨o, e⟩) hk
      refine (K.walks A' hA'.1).go elts kt pt i T _ _ NE hMid fun h'' st'' hk2 => ?_
      obtain ⟨O3, x3⟩ := stp (tk := tk) O2 (.inr ⟨T, hMid⟩) off (fun b m => let ⟨o, e, _⟩ := K.live _ _ (.inl st'') b m; ⟨o, e⟩) hk2
      have Tnew : s1.heap.get? T = none := Heap.get?_none_of_le hT
      have TW : T ∉ C'.W σ' := O1.off Tnew
      have Twr : T ∉ wr := (K.walks A' hA'.1).apart i T h' hMid
      have tup : h''.IsTuple T vals := let ⟨o, e, r⟩ := hTup; ⟨o, hk2 _ _ Twr e, r⟩
      have dv : Dens (C'.W σ') h'' vals.toList (f i) := by
        refine (K.den i vals hPt hi).ext (fun a o n e => hk2 a o (fun m => n (List.mem_append_left _ m)) (hk a o (fun m => n (List.mem_append_left _ m)) (x1.keep a o (fun m => ?_) e))) fun a m => ?_
        · rcases List.mem_append.mp m with m | m
          · exact n (List.mem_append_left _ m)
          · exact n (List.mem_append_right _ (List.mem_append_right _ m))
        · rcases List.mem_append.mp m with m | m
          · rcases List.mem_append.mp m with m | m
            · exact .inl (List.mem_append_left _ (K.bsOk a m))
            · exact .inl (List.mem_append_right _ (List.mem_append_left _ m))
          · exact (b1 a m).imp (fun q => List.mem_append_right _ (List.mem_append_right _ q)) id
      refine ha bs i hi A' σ' _ (.ref T) Q' hA' O3 (.tuple TW (by simpa using tup) dv) fun s3 O4 x4 => hQ' s3 O4 ?_ ?_
      · exact (K.walks A' hA'.1).frame _ _ _ st'' fun b m o e => x4.keep b o (off b m) e
      · exact ((x2.trans' x3).sub fun a m => List.mem_append_left _ m).trans' (x4.sub fun a m => List.mem_append_right _ m)
    · intro A' σ' s1 Q' hA' O1 off st hQ'
      refine (K.walks A' hA'.1).done s1 _ NE st fun h' tk hk => ?_
      refine hQ' _ (O1.extWo' (fun a m => List.mem_append_right _ m) hk (fun a m => ?_) (fun a m => off a (K.wrOk a m).1) (fun b m o e => live (.inl st) b m o e) ?_) (fun b o n e => hk b o n e) rfl
      · obtain ⟨o, e⟩ := O1.there a (List.mem_append_right _ m)
        exact ⟨o, hk a o (fun n => (K.fpOk _ (K.wrOk _ n).1).1 (List.mem_append_left _ m)) e⟩
      · exact ⟨fun b o e => hk b o (fun m => by have := wrHb b m; rw [e] at this; cases this) (O1.bs.le b o e), let ⟨ps, e, r⟩ := O1.bs.tab; ⟨ps, hk _ _ wrT e, r⟩, O1.bs.bare⟩
end
end Mine
namespace MineP
open PySem.Sem (wp)
open PySem.AutoSeq1 (wpAny_loadPart')
section
variable {prog : Program} {w : World} {A : Around} {E : Value → Shared → Prop} {s : Shared}
theorem nextOf_tuple_item {it t : Addr} {i : Nat} {items} {x : Value} {Q : Value → Shared → Prop} (hit : s.heap.IsTupleIter it t i)
    (ht : s.heap.IsTuple t items) (hx : items[i]? = some x)
    (hQ : ∀ h', h'.IsTupleIter it t (i + 1) → Heap.SameBut it s.heap h' → Q x { s with heap := h' }) :
    wpAny (model prog w) A (Builtin.SmallTypes.nextOf (.ref it)) Q E s := by
  obtain ⟨o, ho, hc, hd⟩ := id hit
  obtain ⟨ol, hol, _, nl, hdl⟩ := ht
  unfold Builtin.SmallTypes.nextOf
  refine wpAny_bind (wpAny_callSpecial?_slot (name := Str.ofString "__next__") hit.typeIs F.slot_tuple_iterator_next
    (wpAny_call_entry F.slot_tuple_iterator_next hit.typeIs F.entry_tuple_iterator_next ?_ (F.args_tuple_iterator_next_1 _)))
  show wpAny _ _ (field (.ref it) 0 >>= _) _ _ s
  refine wpAny_bind (wpAny_field ho hd (x := .ref t) rfl ?_)
  show wpAny _ _ (if (Value.ref t == Value.none) = true then _ else _) _ _ s
  rw [if_neg (show ¬ ((Value.ref t == Value.none) = true) from Bool.false_ne_true)]
  show wpAny _ _ (field (.ref it) 1 >>= _) _ _ s
  refine wpAny_bind (wpAny_field ho hd (x := .int i 0) rfl ?_)
  show wpAny _ _ (seqItems? (.ref t) >>= _) _ _ s
  refine wpAny_bind (wpAny_seqItems hol hdl ?_)
  simp only [Int.toNat_natCast, hx]
  refine wpAny_bind (wpAny_setField ho hd (by simp) (wpAny_pure ⟨x, rfl, wpAny_pure (hQ _ ?_ (Heap.SameBut.update ..))⟩))
  exact ⟨_, Heap.get?_update_self _ ho (Obj.isFreed_of_fields (Obj.data_mapFields hd _)), (Obj.cls_mapFields ..).trans hc, by
    rw [Obj.data_mapFields hd]; simp [rawInt]⟩
theorem nextOf_tuple_end {it t : Addr} {i : Nat} {items} {Q : Value → Shared → Prop} (hh : A.handled = none)
    (hit : s.heap.IsTupleIter it t i) (ht : s.heap.IsTuple t items) (hx : items[i]? = none)
    (hE : ∀ h' e, Heap.ExtBut it s.heap h' → (∃ o, h'.get? e = some o ∧ o.cls = .type "StopIteration") → E (.ref e) { s with heap := h' }) :
    wpAny (model prog w) A (Builtin.SmallTypes.nextOf (.ref it)) Q E s := by
  obtain ⟨o, ho, hc, hd⟩ := id hit
  obtain ⟨ol, hol, _, nl, hdl⟩ := ht
  unfold Builtin.SmallTypes.nextOf
  refine wpAny_bind (wpAny_callSpecial?_slot (name := Str.ofString "__next__") hit.typeIs F.slot_tuple_iterator_next
    (wpAny_call_entry F.slot_tuple_iterator_next hit.typeIs F.entry_tuple_iterator_next ?_ (F.args_tuple_iterator_next_1 _)))
  show wpAny _ _ (field (.ref it) 0 >>= _) _ _ s
  refine wpAny_bind (wpAny_field ho hd (x := .ref t) rfl ?_)
  show wpAny _ _ (if (Value.ref t == Value.none) = true then _ else _) _ _ s
  rw [if_neg (show ¬ ((Value.ref t == Value.none) = true) from Bool.false_ne_true)]
  show wpAny _ _ (field (.ref it) 1 >>= _) _ _ s
  refine wpAny_bind (wpAny_field ho hd (x := .int i 0) rfl ?_)
  show wpAny _ _ (seqItems? (.ref t) >>= _) _ _ s
  refine wpAny_bind (wpAny_seqItems hol hdl ?_)
  simp only [Int.toNat_natCast, hx]
  refine wpAny_bind (wpAny_rule (wpAny_bind (wpAny_setField ho hd (by simp) ?_)))
  show wpAny _ _ (newExc (.type "StopIteration") [] >>= _) _ _ _
  refine wpAny_bind ?_
  simp only [newExc, newTuple]
  refine wpAny_bind (wpAny_newObj_type ?_ (by size_fits))
  refine wpAny_bind (m := firstArgMember _ _) (wpAny_of_eq (a := Value.none) (by first | rfl | (simp only [firstArgMember]; rfl)) ?_)
  refine wpAny_newObj_type ?_ (by size_fits)
  simp only [raiseNew]
  refine wpAny_bind (wpAny_handled ?_)
  first | rw [show A.in1.handled = none from hh] | rw [hh]
  refine wpAny_bind (wpAny_pure (wpAny_throw ?_))
  exact hE _ _ (((Heap.SameBut.update ..).extBut.push _).push _) ⟨_, Heap.get?_push_size _ rfl, rfl⟩
end
theorem isTuple_at {h h' : Heap} {t : Addr} {items : Array Value} (l : h.IsTuple t items) (k : ∀ o, h.get? t = some o → h'.get? t = some o) : h'.IsTuple t items := let ⟨o, e, r⟩ := l; ⟨o, k o e, r⟩
theorem Draws.tuple {prog : Program} {w : World} {A : Around} (hh : A.handled = none) (it l : Addr) (hne : l ≠ it) (items : Array Value) :
    Draws prog w A it [it, l] items.size (fun i v => items[i]? = some v) (fun i h => h.IsTupleIter it l i ∧ h.IsTuple l items) where
  live := fun _ _ st => let ⟨o, ho, _⟩ := st.1; ⟨o, ho⟩
  frame := fun _ _ _ st hk => ⟨(let ⟨o, e, r⟩ := st.1; ⟨o, hk it (by simp) o e, r⟩), isTuple_at st.2 fun o e => hk l (by simp) o e⟩
  item := fun i s Q E hi st hQ => by
    refine nextOf_tuple_item st.1 st.2 (x := items[i]) (by simp [hi]) fun h' hit' hs' => ?_
    exact hQ _ h' s.toks (by simp [hi]) ⟨hit', st.2.extBut hs'.extBut hne⟩ hs'
  done := fun s Q E st hE => nextOf_tuple_end hh st.1 st.2 (by simp) hE
set_option maxHeartbeats 1000000 in
theorem meets_enumerate_newT (l : Addr) (items : Array Value) (n : Nat) (dct : Option Addr) (sl : Array (Option Value)) :
    Meets (Builtin.«enumerate.__new__» ⟨[.type "enumerate", .ref l], []⟩) (fun _ R s => s.heap.get? l = some { cls := .type "tuple", dict := dct, data := .seq items n, slots := sl } ∧
      R (.ok (.ret (.ref (s.heap.push { cls := .type "tuple_iterator", data := .fields #[.ref l, .int 0 0] }).objs.size)))
        { s with heap := (s.heap.push { cls := .type "tuple_iterator", data := .fields #[.ref l, .int 0 0] }).push { cls := .type "enumerate", data := .fields #[.none, .bool false, .ref s.heap.objs.size, rawInt 0, .none, .none] } }) :=
  .of_wp fun prog w A R s h => by
    obtain ⟨hp, g, d, tk, os⟩ := s; obtain ⟨hl, h⟩ := h
    have hsub := sub_enumerate
    have hL : Heap.IsTuple (Shared.heap ⟨hp, g, d, tk, os⟩) l items := ⟨_, hl, rfl, n, rfl⟩
    wp_walk using wpAny_loadPart' hl
    refine wpAny_stack_any fun st => wpAny_pure ?_
    split
    · rename_i c _ _ _ _ _
      cases (c == Value.type "enumerate")
      · wp_walk using wpAny_loadPart' hl, wpAny_pyIter_tuple hL
        exact ⟨_, rfl, h⟩
      · wp_walk using wpAny_loadPart' hl, wpAny_pyIter_tuple hL
        exact ⟨_, rfl, h⟩
    · wp_walk using wpAny_loadPart' hl, wpAny_pyIter_tuple hL
      exact ⟨_, rfl, h⟩
section
variable {prog : Program} {w : World} {A : Around} {E : Value → Shared → Prop} {s : Shared}
theorem call_enumerate_tuple {l : Addr} {items : Array Value} {Q : Value → Shared → Prop} (hL : s.heap.IsTuple l items)
    (h : ∀ h', IsEnum h' (s.heap.objs.size + 1) s.heap.objs.size 0 .none → h'.IsTupleIter s.heap.objs.size l 0 → h'.objs.size = s.heap.objs.size + 2 →
      (∀ b o, s.heap.get? b = some o → h'.get? b = some o) → Q (.ref (s.heap.objs.size + 1)) { s with heap := h' }) :
    wpAny (model prog w) A (call (.type "enumerate") [.ref l]) Q E s := by
  obtain ⟨⟨c, dct, dt, sl⟩, hl, hc, n, hd⟩ := hL
  replace hc : c = .type "tuple" := hc
  replace hd : dt = .seq items n := hd
  subst hc hd
  refine callType_new F.called_enumerate (by decide) (F.typeCall_enumerate_1 _) (F.newCall_enumerate_1 _) (fun obj => F.args_object_init_2 obj _) F.entry_enumerate_new
    (meets_enumerate_newT l items n dct sl) ⟨hl, ?_⟩
  have hz : (s.heap.push { cls := .type "tuple_iterator", data := .fields #[.ref l, .int 0 0] }).objs.size = s.heap.objs.size + 1 := Heap.size_push ..
  show _ ∧ _
  rw [hz]
  have he : IsEnum ((s.heap.push { cls := .type "tuple_iterator", data := .fields #[.ref l, .int 0 0] }).push
      { cls := .type "enumerate", data := .fields #[.none, .bool false, .ref s.heap.objs.size, rawInt 0, .none, .none] }) (s.heap.objs.size + 1) s.heap.objs.size 0 .none := by
    have := Heap.get?_push_size (s.heap.push { cls := .type "tuple_iterator", data := .fields #[.ref l, .int 0 0] })
      (o := { cls := .type "enumerate", data := .fields #[.none, .bool false, .ref s.heap.objs.size, rawInt 0, .none, .none] }) rfl
    rw [hz] at this; exact this
  refine ⟨⟨_, he, rfl⟩, h _ he ⟨_, Heap.get?_push_of_some _ (Heap.get?_push_size _ rfl), rfl, rfl⟩ (by rw [Heap.size_push, hz]) fun b o x => Heap.get?_push_of_some _ (Heap.get?_push_of_some _ x)⟩
end
end MineP
namespace Mine
open MineP
section
variable {C : Cx} {σ : Sig} {s s' s'' : Shared} {P : DF → Sig → Prop}
noncomputable def EnumR (C : Cx) (σ : Sig) (ds : List D) (s : Shared) (v : Value) (s' : Shared) : Prop :=
  ∃ e it a vs, v = .ref e ∧ s.heap.get? e = none ∧ s.heap.get? it = none ∧ e ≠ it ∧ IsEnum s'.heap e it 0 .none ∧ s'.heap.IsTupleIter it a 0 ∧ s'.heap.IsTuple a (List.toArray vs) ∧ Dens ([e, it] ++ C.W σ) s'.heap vs ds ∧ a ∉ C.W σ ∧ a ≠ e ∧ a ≠ it
theorem OpR.enum_tuple {ds : List D} : OpR C σ (.type "enumerate") [.tuple ds] (EnumR C σ ds) := fun A s Q vs hA O r hQ => by
  cases r with
  | cons r rs =>
  cases rs
  cases r with
  | @tuple a vs _ n l r =>
  refine call_enumerate_tuple l fun h' h1 h2 h3 k => ?_
  have lt : a < s.heap.objs.size := by obtain ⟨o, e, _⟩ := l; exact Heap.lt_size e
  have gN : s.heap.get? (s.heap.objs.size + 1) = none := Heap.get?_none_of_le (Nat.le_succ _)
  exact hQ _ _ (Ext.grew (tk := s.toks) k) (O.grew k) ⟨_, _, a, vs, rfl, gN, get_size, Nat.succ_ne_self _, h1, h2, (let ⟨o, e, r⟩ := l; ⟨o, k _ _ e, r⟩), r.ext (fun a o _ e => k a o e) (fun a m => (List.mem_append.mp m).elim (fun m => .inr (by
    rcases List.mem_cons.mp m with rfl | m
    · exact gN
    · rw [List.mem_singleton.mp m]; exact get_size)) .inl), n, Nat.ne_of_lt (Nat.lt_succ_of_lt lt), Nat.ne_of_lt lt⟩
theorem ItT.enum_tuple {x : Str} {np p : Pos} {e : Expr} {ds : List D} (hf : EvV C σ (.Name x np) (.type "enumerate")) (he : EvE C σ e (.tuple ds)) (hs : starEach [e] C.env = (false, eval e C.env) :: starEach [] C.env := by rfl) :
    ItT C σ (.Call (.Name x np) [e] [] p) ds.length (fun i => [.int i, (ds[i]?).getD .none]) := fun A s Q hA O hQ =>
  callV_run (R := EnumR C σ ds) hf trivial (.cons he .nil hs) OpR.enum_tuple (fun s s1 v s' x ⟨e, it, a, vs, ev, n1, n2, r⟩ => ⟨e, it, a, vs, ev, x.none n1, x.none n2, r⟩) A s _ hA O fun v s1 x1 O1 ⟨e, it, a, vs, ev, n1, n2, hne, h1, h2, h3, r, na, ae, ai⟩ => by
    subst ev
    have W : ∀ A' : Around, A'.handled = none → WalksT C.X.prog C.X.w A' e [e, it, a] [e, it] ds.length _ _ _ := fun A' hA' => by
      have := WalksT.enumerateD (A := A') (Draws.tuple (prog := C.X.prog) (w := C.X.w) (A := A'.in1) hA' it a ai vs.toArray) e hne (by simp [hne, Ne.symm ae]) (by simp)
      rw [show vs.toArray.size = ds.length by simp [r.length]] at this
      exact this
    refine wpAny_pyIter_enum h1 (hQ e s1 [e, it, a] [e, it] [] _ _ _ x1 O1 ⟨W, ⟨⟨_, h1⟩, h2, h3⟩, fun b m => ?_, fun b m => ?_, fun b m => (nomatch m), fun i h st b m => ?_, fun i vals hv hi => ?_⟩)
    · have off : ∀ {b : Addr}, s.heap.get? b = none → b ∉ C.W σ := fun h => O.off h
      rcases List.mem_cons.mp m with rfl | m
      · exact ⟨off n1, _, h1⟩
      rcases List.mem_cons.mp m with rfl | m
      · obtain ⟨o, e, _⟩ := h2; exact ⟨off n2, o, e⟩
      · rw [List.mem_singleton.mp m]; obtain ⟨o, e, _⟩ := h3; exact ⟨na, o, e⟩
    · rcases List.mem_cons.mp m with rfl | m
      · exact ⟨.head _, n1⟩
      · rw [List.mem_singleton.mp m]; exact ⟨.tail _ (.head _), n2⟩
    · have inE : ∀ {vs : Array Value}, Soft [] e { cls := .type "enumerate", dict := none, data := .fields vs, slots := #[] } := .inl ⟨⟨_, rfl⟩, fun q => by injection q with q; exact absurd q (by decide)⟩
      have inI : ∀ {i : Nat}, h.IsTupleIter it a i → ∃ o, h.get? it = some o ∧ Soft [] it o := fun ⟨o, e, c, d⟩ => ⟨o, e, .inl ⟨⟨_, d⟩, by rw [c]; intro q; injection q with q; exact absurd q (by decide)⟩⟩
      rcases st with st | ⟨T, st⟩
      · obtain ⟨⟨old, h1⟩, h2, _⟩ := st
        rcases List.mem_cons.mp m with rfl | m
        · exact ⟨_, h1, inE⟩
        · rw [List.mem_singleton.mp m]; exact inI h2
      · obtain ⟨⟨old, h1⟩, ⟨h2, _⟩, _⟩ := st
        rcases List.mem_cons.mp m with rfl | m
        · exact ⟨_, h1, inE⟩
        · rw [List.mem_singleton.mp m]; exact inI h2
    · obtain ⟨t, y, hy, rfl⟩ := hv
      have hv' : vs[i]? = some y := by simpa using hy
      have hd : ds[i]? = some ds[i] := by simp [hi]
      obtain ⟨v', e', dv⟩ := r.get hd
      rw [hv'] at e'; cases e'
      rw [hd]
      exact .cons (.int _ _) (.cons dv .nil)
end
end Mine
namespace Mine
open MineP
section
variable {C : Cx} {σ : Sig} {s s' s'' : Shared} {P : DF → Sig → Prop}
noncomputable abbrev sL (xs : List Str) : List D := xs.map .str
theorem dens_strs {W : List Addr} {h : Heap} : ∀ {vs : List Value} {xs : List Str}, Dens W h vs (sL xs) → ∃ l : List (Str × Tok), vs = strValues l ∧ l.map (·.1) = xs
  | [], [], _ => ⟨[], rfl, rfl⟩
  | [], _ :: _, r => nomatch r
  | _ :: _, [], r => nomatch r
  | v :: vs, x :: xs, .cons r rs => by
    obtain ⟨l, e1, e2⟩ := dens_strs rs
    cases r with
    | str _ t => exact ⟨(x, t) :: l, by rw [e1]; rfl, by rw [← e2]; rfl⟩
theorem OpC.join {x : Str} {xs : List Str} (h : (xs.map (·.length)).sum + xs.length * x.length ≤ 16777216) : OpC C σ (.builtin "str.join") [.str x, .list (sL xs)] (.str (Str.join x xs)) := fun A s Q vs hA O r hQ => by
  cases r with | cons r rs => cases rs with | cons q rs => cases rs; cases r with | str _ t => cases q with | @list a ws _ n l r =>
  obtain ⟨lt, e1, e2⟩ := dens_strs r
  subst e1
  refine SC.join l e2 (joinOk_of h) fun t' k => ?_
  have e : Txt.join x xs = Str.join x xs := eq_of_beq (join_plain_closes x xs)
  rw [e]
  exact hQ _ _ Ext.toks O.toks (.str _ _)
theorem EvE.strJoin {o : Expr} {x : Str} {xs : List Str} {apos p : Pos} {e : Expr} (ho : EvE C σ o (.str x)) (he : EvE C σ e (.list (sL xs))) (h : (xs.map (·.length)).sum + xs.length * x.length ≤ 16777216) (hs : starEach [e] C.env = (false, eval e C.env) :: starEach [] C.env := by rfl)
    (hb : attributeBase o "join" C.env (eval o C.env) = eval o C.env := by rfl) (hl : (apos.endLine == p.line) = true := by rfl)
    (hk : ((((backTo p (starEach [e] C.env)).all fun x => !x.fst) && (backToKw p (keywordEach [] C.env)).all fun x => x.fst.isSome) && decide (([e].length + ([] : List Keyword).length + if ([] : List Keyword).isEmpty = true then 0 else 1) < 30)) = true := by rfl) :
    EvE C σ (.Call (.Attribute o "join" apos) [e] [] p) (.str (Str.join x xs)) :=
  EvE.meth ho ⟨rfl, rfl⟩ F.plainAttrs_str F.slot_str_join F.type_str_join (.cons he .nil hs) (OpC.join h) hb hl hk
/-- what the top laid, read under its name -/
theorem EvE.globD {e : Expr} {v : Value} {d : D} (h : EvV C σ e v) (hd : Den [] C.X.hb v d) : EvE C σ e d := .mk fun A s Q hA O hQ => h.run A s _ hA O fun v' s1 x1 O1 ev => by
  subst ev
  exact hQ _ s1 x1 O1 (hd.ext (fun a o _ e => O1.bs.le a o e) fun a m => .inr (O1.fresh a m))
end
end Mine
namespace MineP
open PySem.Sem (wp)
open PySem.AutoSeq1 (wpAny_loadPart')
structure ZipAp (z TI TO i1 i2 : Addr) : Prop where
  TIz : TI ≠ z
  TOz : TO ≠ z
  i1z : i1 ≠ z
  i2z : i2 ≠ z
  TITO : TI ≠ TO
  TIi1 : TI ≠ i1
  TIi2 : TI ≠ i2
  TOi1 : TO ≠ i1
  TOi2 : TO ≠ i2
  i12 : i1 ≠ i2
section
variable {prog : Program} {w : World} {A : Around} {E : Value → Shared → Prop} {s : Shared}
variable {z TI TO i1 i2 : Addr} {n : Nat} {P1 P2 : Nat → Value → Prop} {S1 S2 : Nat → Heap → Prop}
theorem fr1 {D1 : Draws prog w A i1 [i1] n P1 S1} {b : Addr} {h h' : Heap} {i : Nat} (st : S1 i h) (hs : Heap.SameBut b h h') (hn : i1 ≠ b) : S1 i h' := D1.frame _ _ _ st fun c hc o e => by
  rw [List.mem_singleton.mp hc] at e ⊢
  exact hs.extBut _ _ hn e
theorem zip_next_itemD {i : Nat} {a b : Value} {Q : Value → Shared → Prop} (D : ZipAp z TI TO i1 i2) (D1 : Draws prog w A i1 [i1] n P1 S1) (D2 : Draws prog w A i2 [i2] n P2 S2)
    (hz : IsZip s.heap z TI TO .none) (hTI : IsPair s.heap TI (.ref i1) (.ref i2)) (hTO : IsPair s.heap TO a b) (h1 : S1 i s.heap) (h2 : S2 i s.heap) (hi : i < n)
    (hQ : ∀ x y h' tk, P1 i x → P2 i y → IsZip h' z TI TO (rawInt s.heap.objs.size) → IsPair h' TO x y → S1 (i + 1) h' → S2 (i + 1) h' → IsPair h' s.heap.objs.size x y → h'.objs.size = s.heap.objs.size + 1 →
      (∀ c o, c ≠ z → c ≠ TO → c ≠ i1 → c ≠ i2 → s.heap.get? c = some o → h'.get? c = some o) → Q (.ref s.heap.objs.size) { s with heap := h', toks := tk }) :
    wpAny (model prog w) A (Builtin.«zip.__next__» ⟨[.ref z], []⟩) (fun fin s' => ∃ v, fin = .done (.ret v) ∧ Q v s') E s := by
  show wpAny _ _ (field (.ref z) 2 >>= _) _ _ _
  refine wpAny_bind (wpAny_field hz rfl (x := .bool false) rfl ?_)
  show wpAny _ _ (field (.ref z) 3 >>= _) _ _ _
  refine wpAny_bind (wpAny_field hz rfl (x := .ref TI) rfl ?_)
  refine wpAny_bind (wpAny_seqItems hTI rfl ?_)
  show wpAny _ _ (Builtin.SmallTypes.ownedTupleIsFree (.ref z) >>= _) _ _ _
  refine wpAny_bind ?_
  unfold Builtin.SmallTypes.ownedTupleIsFree
  refine wpAny_bind (wpAny_field hz rfl (x := .none) rfl (wpAny_pure ?_))
  simp only [if_true]
  refine wpAny_bind (wpAny_rule ?_)
  refine wpAny_bind (wpAny_field hz rfl (x := .ref TO) rfl ?_)
  refine wpAny_bind (wpAny_setField_rec hz (by simp) fun h₁ hz₁ hs₁ => ?_)
  replace hz₁ : IsZip h₁ z TI TO .ellipsis := hz₁
  refine wpAny_bind ?_
  simp only [List.zipIdx_cons, List.zipIdx_nil, List.forIn_cons, List.forIn_nil]
  refine wpAny_bind (wpAny_bind (wpAny_onRaise ?_))
  show wpAny _ _ (Builtin.SmallTypes.nextOf (.ref i1) >>= _) _ _ _
  refine wpAny_bind (D1.item i _ _ _ hi (fr1 (D1 := D1) h1 hs₁ D.i1z) fun x h₂ tk₂ hPx h1₂ hs₂ => wpAny_pure ?_)
  replace hs₂ : Heap.SameBut i1 h₁ h₂ := hs₂
  have hTO₂ : IsPair h₂ TO a b := hs₂.extBut _ _ D.TOi1 (hs₁.extBut _ _ D.TOz hTO)
  refine wpAny_bind (wpAny_seqItems hTO₂ rfl ?_)
  refine wpAny_bind (wpAny_updateSeq_pair hTO₂ fun h₃ hTO₃ hs₃ => ?_)
  replace hTO₃ : IsPair h₃ TO x b := hTO₃
  replace hs₃ : Heap.SameBut TO h₂ h₃ := hs₃
  refine wpAny_bind (wpAny_letGo (wpAny_pure ?_))
  refine wpAny_bind (wpAny_bind (wpAny_onRaise ?_))
  show wpAny _ _ (Builtin.SmallTypes.nextOf (.ref i2) >>= _) _ _ _
  refine wpAny_bind (D2.item i _ _ _ hi (fr1 (D1 := D2) (fr1 (D1 := D2) (fr1 (D1 := D2) h2 hs₁ D.i2z) hs₂ D.i12.symm) hs₃ D.TOi2.symm) fun y h₄ tk₄ hPy h2₄ hs₄ => wpAny_pure ?_)
  replace hs₄ : Heap.SameBut i2 h₃ h₄ := hs₄
  have hTO₄ : IsPair h₄ TO x b := hs₄.extBut _ _ D.TOi2 hTO₃
  refine wpAny_bind (wpAny_seqItems hTO₄ rfl ?_)
  refine wpAny_bind (wpAny_updateSeq_pair hTO₄ fun h₅ hTO₅ hs₅ => ?_)
  replace hTO₅ : IsPair h₅ TO x y := hTO₅
  replace hs₅ : Heap.SameBut TO h₄ h₅ := hs₅
  refine wpAny_bind (wpAny_letGo (wpAny_pure (wpAny_pure ?_)))
  refine wpAny_bind (wpAny_seqItems hTO₅ rfl ?_)
  refine wpAny_bind (wpAny_newTuple ?_)
  have hsz : h₅.objs.size = s.heap.objs.size := by rw [hs₅.1, hs₄.1, hs₃.1, hs₂.1, hs₁.1]
  have hz₅ : IsZip h₅ z TI TO .ellipsis := hs₅.extBut _ _ D.TOz.symm (hs₄.extBut _ _ D.i2z.symm (hs₃.extBut _ _ D.TOz.symm (hs₂.extBut _ _ D.i1z.symm hz₁)))
  have hk₅ : ∀ c o, c ≠ z → c ≠ TO → c ≠ i1 → c ≠ i2 → s.heap.get? c = some o → h₅.get? c = some o := fun c o c1 c2 c3 c4 e =>
    hs₅.extBut _ _ c2 (hs₄.extBut _ _ c4 (hs₃.extBut _ _ c2 (hs₂.extBut _ _ c3 (hs₁.extBut _ _ c1 e))))
  have h1₅ : S1 (i + 1) h₅ := fr1 (D1 := D1) (fr1 (D1 := D1) (fr1 (D1 := D1) h1₂ hs₃ D.TOi1.symm) hs₄ D.i12) hs₅ D.TOi1.symm
  have h2₅ : S2 (i + 1) h₅ := fr1 (D1 := D2) h2₄ hs₅ D.TOi2.symm
  have hzlt : z < h₅.objs.size := Heap.lt_size hz₅
  have hTOlt : TO < h₅.objs.size := Heap.lt_size hTO₅
  show wpAny _ _ (Builtin.SmallTypes.ownedTupleHandOut (.ref z) (.ref h₅.objs.size) >>= _) _ _ _
  refine wpAny_bind ?_
  unfold Builtin.SmallTypes.ownedTupleHandOut
  have hz₆ : IsZip (h₅.push { cls := .type "tuple", data := .seq #[x, y] }) z TI TO .ellipsis := Heap.get?_push_of_some _ hz₅
  refine wpAny_bind (wpAny_setField_rec hz₆ (by simp) fun h₇ hz₇ hs₇ => ?_)
  replace hz₇ : IsZip h₇ z TI TO (rawInt h₅.objs.size) := hz₇
  refine wpAny_setField_rec hz₇ (by simp) fun h₈ hz₈ hs₈ => ?_
  replace hz₈ : IsZip h₈ z TI TO (rawInt h₅.objs.size) := hz₈
  have up : ∀ c o, c ≠ z → h₅.get? c = some o → h₈.get? c = some o := fun c o c1 e => hs₈.extBut _ _ c1 (hs₇.extBut _ _ c1 (Heap.get?_push_of_some _ e))
  have hT₈ : IsPair h₈ h₅.objs.size x y := hs₈.extBut _ _ (Nat.ne_of_gt hzlt) (hs₇.extBut _ _ (Nat.ne_of_gt hzlt) (Heap.get?_push_size _ rfl))
  have hz8 : h₈.objs.size = h₅.objs.size + 1 := by rw [hs₈.1, hs₇.1, Heap.size_push]
  rw [hsz] at hz₈ hT₈ hz8
  refine wpAny_pure ⟨_, rfl, ?_⟩
  show Q (.ref h₅.objs.size) _
  rw [hsz]
  exact hQ x y h₈ _ hPx hPy hz₈ (up _ _ D.TOz hTO₅) (D1.frame _ _ _ h1₅ fun c hc o e => by rw [List.mem_singleton.mp hc] at e ⊢; exact up _ o D.i1z e) (D2.frame _ _ _ h2₅ fun c hc o e => by rw [List.mem_singleton.mp hc] at e ⊢; exact up _ o D.i2z e) hT₈ hz8 fun c o c1 c2 c3 c4 e => up c o c1 (hk₅ c o c1 c2 c3 c4 e)
/-- both are done at once: the first tells -/
theorem zip_next_endD {a b : Value} {Q : Fin → Shared → Prop} (D : ZipAp z TI TO i1 i2) (D1 : Draws prog w A i1 [i1] n P1 S1)
    (hz : IsZip s.heap z TI TO .none) (hTI : IsPair s.heap TI (.ref i1) (.ref i2)) (hTO : IsPair s.heap TO a b) (h1 : S1 n s.heap)
    (hE : ∀ h' e, (∀ c o, c ≠ z → c ≠ TO → c ≠ i1 → c ≠ i2 → s.heap.get? c = some o → h'.get? c = some o) → (∃ o, h'.get? e = some o ∧ o.cls = .type "StopIteration") → E (.ref e) { s with heap := h' }) :
    wpAny (model prog w) A (Builtin.«zip.__next__» ⟨[.ref z], []⟩) Q E s := by
  show wpAny _ _ (field (.ref z) 2 >>= _) _ _ _
  refine wpAny_bind (wpAny_field hz rfl (x := .bool false) rfl ?_)
  show wpAny _ _ (field (.ref z) 3 >>= _) _ _ _
  refine wpAny_bind (wpAny_field hz rfl (x := .ref TI) rfl ?_)
  refine wpAny_bind (wpAny_seqItems hTI rfl ?_)
  show wpAny _ _ (Builtin.SmallTypes.ownedTupleIsFree (.ref z) >>= _) _ _ _
  refine wpAny_bind ?_
  unfold Builtin.SmallTypes.ownedTupleIsFree
  refine wpAny_bind (wpAny_field hz rfl (x := .none) rfl (wpAny_pure ?_))
  simp only [if_true]
  refine wpAny_bind (wpAny_rule ?_)
  refine wpAny_bind (wpAny_field hz rfl (x := .ref TO) rfl ?_)
  refine wpAny_bind (wpAny_setField_rec hz (by simp) fun h₁ hz₁ hs₁ => ?_)
  replace hz₁ : IsZip h₁ z TI TO .ellipsis := hz₁
  refine wpAny_bind ?_
  simp only [List.zipIdx_cons, List.zipIdx_nil, List.forIn_cons, List.forIn_nil]
  refine wpAny_bind (wpAny_bind (wpAny_onRaise ?_))
  show wpAny _ _ (Builtin.SmallTypes.nextOf (.ref i1) >>= _) _ _ _
  refine wpAny_bind (D1.done _ _ _ (fr1 (D1 := D1) h1 hs₁ D.i1z) fun h₂ e hs₂ he => ?_)
  obtain ⟨oe, hoe, hce⟩ := he
  have hz₂ : IsZip h₂ z TI TO .ellipsis := hs₂ _ _ D.i1z.symm hz₁
  have hez : e ≠ z := fun x => by subst x; rw [hz₂] at hoe; cases hoe; simp at hce
  exact wpAny_setField_rec hz₂ (by simp) fun h₃ _ hs₃ => hE h₃ e (fun c o c1 _ c3 _ x => hs₃.extBut _ _ c1 (hs₂ _ _ c3 (hs₁.extBut _ _ c1 x))) ⟨oe, hs₃.extBut _ _ hez hoe, hce⟩
theorem WalksT.zipD (z TI TO i1 i2 : Addr) (D : ZipAp z TI TO i1 i2) (D1 : Draws prog w A.in1 i1 [i1] n P1 S1) (D2 : Draws prog w A.in1 i2 [i2] n P2 S2) :
    WalksT prog w A z [z, TI, TO, i1, i2] [z, TO, i1, i2] n
      (fun i vals => ∃ x y, P1 i x ∧ P2 i y ∧ vals = #[x, y])
      (fun i h => IsZip h z TI TO .none ∧ IsPair h TI (.ref i1) (.ref i2) ∧ (∃ a b, IsPair h TO a b) ∧ S1 i h ∧ S2 i h)
      (fun i T h => IsZip h z TI TO (rawInt T) ∧ IsPair h TI (.ref i1) (.ref i2) ∧ (∃ a b, IsPair h TO a b) ∧ S1 (i + 1) h ∧ S2 (i + 1) h ∧ T ≠ z ∧ T ≠ TO ∧ T ≠ i1 ∧ T ≠ i2) where
  sub := fun c hc => by simp at hc ⊢; rcases hc with rfl | rfl | rfl | rfl <;> simp
  frame := fun i h h' hst hk => by
    obtain ⟨hz, hTI, ⟨a, b, hTO⟩, h1, h2⟩ := hst
    exact ⟨hk z (by simp) _ hz, hk TI (by simp) _ hTI, ⟨a, b, hk TO (by simp) _ hTO⟩, D1.frame _ _ _ h1 fun c hc o e => by rw [List.mem_singleton.mp hc] at e ⊢; exact hk i1 (by simp) o e,
      D2.frame _ _ _ h2 fun c hc o e => by rw [List.mem_singleton.mp hc] at e ⊢; exact hk i2 (by simp) o e⟩
  item := fun i s Q E hi hst hQ => by
    obtain ⟨hz, hTI, ⟨a, b, hTO⟩, h1, h2⟩ := hst
    have lt : ∀ {c o}, s.heap.get? c = some o → s.heap.objs.size ≠ c := fun e => Nat.ne_of_gt (Heap.lt_size e)
    have hT : s.TypeIs (.ref z) "zip" := ⟨_, hz, rfl⟩
    unfold pyNext
    refine wpAny_bind (wpAny_attempt (wpAny_callSpecial?_slot (name := Str.ofString "__next__") hT F.slot_zip_next
      (wpAny_call_entry F.slot_zip_next hT F.entry_zip_next
        (zip_next_itemD D D1 D2 hz hTI hTO h1 h2 hi fun x y h' tk p1 p2 a1 a2 a3 a4 a5 a6 hk => wpAny_pure ?_) (F.args_zip_next_1 _))))
    obtain ⟨_, l1⟩ := D1.live _ _ h1
    obtain ⟨_, l2⟩ := D2.live _ _ h2
    exact hQ s.heap.objs.size #[x, y] h' tk ⟨x, y, p1, p2, rfl⟩ (Nat.le_refl _) ⟨_, a5, rfl, _, rfl⟩ ⟨a1, hk _ _ D.TIz D.TITO D.TIi1 D.TIi2 hTI, ⟨_, _, a2⟩, a3, a4, lt hz, lt hTO, lt l1, lt l2⟩
      fun c o hc e => hk c o (fun x => hc (by simp [x])) (fun x => hc (by simp [x])) (fun x => hc (by simp [x])) (fun x => hc (by simp [x])) e
  go := fun elts k pos i T s Q E hm hQ => by
    obtain ⟨hz, hTI, ⟨a, b, hTO⟩, h1, h2, _⟩ := hm
    refine wpAny_letOwnedTupleGo_zip hz fun h' hz' hs' => hQ h' ⟨hz', hs'.extBut _ _ D.TIz hTI, ⟨a, b, hs'.extBut _ _ D.TOz hTO⟩, fr1 (D1 := D1) h1 hs' D.i1z, fr1 (D1 := D2) h2 hs' D.i2z⟩ fun c o hc e => hs'.extBut _ _ (fun x => hc (by simp [x])) e
  apart := fun i T h hm hT => by
    obtain ⟨_, _, _, _, _, t1, t2, t3, t4⟩ := hm
    simp at hT
    rcases hT with rfl | rfl | rfl | rfl
    · exact t1 rfl
    · exact t2 rfl
    · exact t3 rfl
    · exact t4 rfl
  done := fun s Q E hst hQ => by
    obtain ⟨hz, hTI, ⟨a, b, hTO⟩, h1, h2⟩ := hst
    have hT : s.TypeIs (.ref z) "zip" := ⟨_, hz, rfl⟩
    unfold pyNext
    refine wpAny_bind (wpAny_attempt (wpAny_callSpecial?_slot (name := Str.ofString "__next__") hT F.slot_zip_next
      (wpAny_call_entry F.slot_zip_next hT F.entry_zip_next (zip_next_endD D D1 hz hTI hTO h1 fun h' e hk he => ?_) (F.args_zip_next_1 _))))
    obtain ⟨o, ho, hc⟩ := he
    refine wpAny_bind (wpAny_isInstance (T := "StopIteration") (b := true) ⟨o, ho, hc⟩ isSubtype_stop ?_)
    exact wpAny_pure (hQ h' s.toks fun c o hc e => hk c o (fun x => hc (by simp [x])) (fun x => hc (by simp [x])) (fun x => hc (by simp [x])) (fun x => hc (by simp [x])) e)
  self := fun i s Q E hst hQ => wpAny_pyIter_zip hst.1 hQ
end
set_option maxHeartbeats 1000000 in
theorem meets_zip_newS (x y : Str) (t u : Tok) (hx : x.cps.all (· < 128) = true) (hy : y.cps.all (· < 128) = true) :
    Meets (Builtin.«zip.__new__» ⟨[.type "zip", .str x t, .str y u], []⟩) (fun _ R s =>
      let h1 := s.heap.push { cls := .type "str_ascii_iterator", data := .fields #[.str x t, .int 0 0] }
      let h2 := h1.push { cls := .type "str_ascii_iterator", data := .fields #[.str y u, .int 0 0] }
      let h3 := h2.push { cls := .type "tuple", data := .seq #[.ref s.heap.objs.size, .ref h1.objs.size] }
      let h4 := h3.push { cls := .type "tuple", data := .seq #[.none, .none] }
      R (.ok (.ret (.ref h4.objs.size))) { s with heap := h4.push { cls := .type "zip", data := .fields #[.none, .bool false, .bool false, .ref h2.objs.size, .ref h3.objs.size] } }) :=
  .of_wp fun prog w A R s h => by
    obtain ⟨hp, g, d, tk, os⟩ := s
    have hsub := sub_zip
    wp_walk using wpAny_pyIter_ascii hx, wpAny_pyIter_ascii hy
    exact ⟨_, rfl, h⟩
end MineP
namespace Mine
open MineP
section
variable {C : Cx} {σ : Sig} {s s' s'' : Shared} {P : DF → Sig → Prop}
noncomputable def ZipR (C : Cx) (σ : Sig) (x y : Str) (s : Shared) (v : Value) (s' : Shared) : Prop :=
  ∃ (z TI TO i1 i2 : Addr) (t u : Tok), v = .ref z ∧ ZipAp z TI TO i1 i2 ∧ (∀ a ∈ [z, TI, TO, i1, i2], s.heap.get? a = none) ∧ IsZip s'.heap z TI TO .none ∧ IsPair s'.heap TI (.ref i1) (.ref i2) ∧ IsPair s'.heap TO .none .none ∧
    s'.heap.IsStrIter i1 "str_ascii_iterator" x t 0 ∧ s'.heap.IsStrIter i2 "str_ascii_iterator" y u 0
theorem OpR.zip_str {x y : Str} (hx : x.cps.all (· < 128) = true) (hy : y.cps.all (· < 128) = true) : OpR C σ (.type "zip") [.str x, .str y] (ZipR C σ x y) := fun A s Q vs hA O r hQ => by
  cases r with
  | cons r rs =>
  cases rs with
  | cons q rs =>
  cases rs
  cases r with
  | str _ t =>
  cases q with
  | str _ u =>
  refine callType_new F.called_zip (by decide) (F.typeCall_zip_2 _ _) (F.newCall_zip_2 _ _) (fun obj => F.args_object_init_3 obj _ _) F.entry_zip_new (meets_zip_newS x y t u hx hy) ?_
  let h1 := s.heap.push { cls := .type "str_ascii_iterator", data := .fields #[.str x t, .int 0 0] }
  let h2 := h1.push { cls := .type "str_ascii_iterator", data := .fields #[.str y u, .int 0 0] }
  let h3 := h2.push { cls := .type "tuple", data := .seq #[.ref s.heap.objs.size, .ref h1.objs.size] }
  let h4 := h3.push { cls := .type "tuple", data := .seq #[.none, .none] }
  let h5 := h4.push { cls := .type "zip", data := .fields #[.none, .bool false, .bool false, .ref h2.objs.size, .ref h3.objs.size] }
  have z1 : h1.objs.size = s.heap.objs.size + 1 := Heap.size_push ..
  have z2 : h2.objs.size = s.heap.objs.size + 2 := by show (h1.push _).objs.size = _; rw [Heap.size_push, z1]
  have z3 : h3.objs.size = s.heap.objs.size + 3 := by show (h2.push _).objs.size = _; rw [Heap.size_push, z2]
  have z4 : h4.objs.size = s.heap.objs.size + 4 := by show (h3.push _).objs.size = _; rw [Heap.size_push, z3]
  have g5 : h5.get? h4.objs.size = some _ := Heap.get?_push_size _ rfl
  have g4 : h5.get? h3.objs.size = some _ := Heap.get?_push_of_some _ (Heap.get?_push_size _ rfl)
  have g3 : h5.get? h2.objs.size = some _ := Heap.get?_push_of_some _ (Heap.get?_push_of_some _ (Heap.get?_push_size _ rfl))
  have g2 : h5.get? h1.objs.size = some _ := Heap.get?_push_of_some _ (Heap.get?_push_of_some _ (Heap.get?_push_of_some _ (Heap.get?_push_size _ rfl)))
  have g1 : h5.get? s.heap.objs.size = some _ := Heap.get?_push_of_some _ (Heap.get?_push_of_some _ (Heap.get?_push_of_some _ (Heap.get?_push_of_some _ (Heap.get?_push_size _ rfl))))
  have k : ∀ a o, s.heap.get? a = some o → h5.get? a = some o := fun c o e => Heap.get?_push_of_some _ (Heap.get?_push_of_some _ (Heap.get?_push_of_some _ (Heap.get?_push_of_some _ (Heap.get?_push_of_some _ e))))
  show _ ∧ Q (.ref h4.objs.size) { s with heap := h5 }
  refine ⟨⟨_, g5, rfl⟩, hQ _ { s with heap := h5 } (Ext.grew (tk := s.toks) k) (O.grew k) ⟨h4.objs.size, h2.objs.size, h3.objs.size, s.heap.objs.size, h1.objs.size, t, u, rfl, ?_, fun a m => ?_, g5, g3, g4, ⟨_, g1, rfl, rfl⟩, ⟨_, g2, rfl, rfl⟩⟩⟩
  · constructor <;> intro q <;> change @Eq Nat _ _ at q <;> simp only [z1, z2, z3, z4] at q <;> omega
  · refine Heap.get?_none_of_le ?_
    simp at m
    rcases m with rfl | rfl | rfl | rfl | rfl <;> omega
theorem ItT.zip_str {f : Str} {np p : Pos} {e1 e2 : Expr} {x y : Str} (hf : EvV C σ (.Name f np) (.type "zip")) (h1 : EvE C σ e1 (.str x)) (h2 : EvE C σ e2 (.str y)) (hx : x.cps.all (· < 128) = true) (hy : y.cps.all (· < 128) = true) (hl : x.length = y.length)
    (hs1 : starEach [e1, e2] C.env = (false, eval e1 C.env) :: starEach [e2] C.env := by rfl) (hs2 : starEach [e2] C.env = (false, eval e2 C.env) :: starEach [] C.env := by rfl) :
    ItT C σ (.Call (.Name f np) [e1, e2] [] p) x.length (fun i => [.str ⟨#[x.cps.getD i 0]⟩, .str ⟨#[y.cps.getD i 0]⟩]) := fun A s Q hA O hQ =>
  callV_run (R := ZipR C σ x y) hf trivial (.cons h1 (.cons h2 .nil hs2) hs1) (OpR.zip_str hx hy) (fun s s1 v s' xx ⟨z, TI, TO, i1, i2, t, u, ev, D, nn, r⟩ => ⟨z, TI, TO, i1, i2, t, u, ev, D, fun a m => xx.none (nn a m), r⟩) A s _ hA O fun v s1 x1 O1 ⟨z, TI, TO, i1, i2, t, u, ev, D, nn, hz, hTI, hTO, s1', s2'⟩ => by
    subst ev
    have W : ∀ A' : Around, A'.handled = none → WalksT C.X.prog C.X.w A' z [z, TI, TO, i1, i2] [z, TO, i1, i2] x.length _ _ _ := fun A' hA' => by
      have d2 := Draws.strAscii (prog := C.X.prog) (w := C.X.w) (A := A'.in1) hA' i2 y u
      rw [show y.cps.size = x.length from hl.symm] at d2
      exact WalksT.zipD z TI TO i1 i2 D (Draws.strAscii (prog := C.X.prog) (w := C.X.w) (A := A'.in1) hA' i1 x t) d2
    refine wpAny_pyIter_zip hz (hQ z s1 [z, TI, TO, i1, i2] [z, TO, i1, i2] [TO] _ _ _ x1 O1 ⟨W, ⟨hz, hTI, ⟨_, _, hTO⟩, s1', s2'⟩, fun b m => ⟨O.off (nn b m), ?_⟩, fun b m => ?_, fun b m => ?_, fun i h st b m => ?_, fun i vals hv hi => ?_⟩)
    · simp at m
      rcases m with rfl | rfl | rfl | rfl | rfl
      · exact ⟨_, hz⟩
      · exact ⟨_, hTI⟩
      · exact ⟨_, hTO⟩
      · obtain ⟨o, e, _⟩ := s1'; exact ⟨o, e⟩
      · obtain ⟨o, e, _⟩ := s2'; exact ⟨o, e⟩
    · have m' : b ∈ [z, TI, TO, i1, i2] := by
        simp at m ⊢
        rcases m with rfl | rfl | rfl | rfl <;> simp
      exact ⟨m', nn b m'⟩
    · rw [List.mem_singleton.mp m]; simp
    · have inZ : ∀ {vs : Array Value}, Soft [TO] z { cls := .type "zip", dict := none, data := .fields vs, slots := #[] } := .inl ⟨⟨_, rfl⟩, fun q => by injection q with q; exact absurd q (by decide)⟩
      have inT : ∀ {vs : Array Value}, Soft [TO] TO { cls := .type "tuple", data := .seq vs } := .inr ⟨.head _, fun q => by injection q with q; exact absurd q (by decide)⟩
      have inI : ∀ {i : Nat} {a : Addr} {x : Str} {t : Tok}, h.IsStrIter a "str_ascii_iterator" x t i → ∃ o, h.get? a = some o ∧ Soft [TO] a o := fun ⟨o, e, c, d⟩ => ⟨o, e, .inl ⟨⟨_, d⟩, by rw [c]; intro q; injection q with q; exact absurd q (by decide)⟩⟩
      simp at m
      rcases st with ⟨a1, _, ⟨p, q, a3⟩, a4, a5⟩ | ⟨T, a1, _, ⟨p, q, a3⟩, a4, a5, _⟩
      all_goals
        rcases m with rfl | rfl | rfl | rfl
        · exact ⟨_, a1, inZ⟩
        · exact ⟨_, a3, inT⟩
        · exact inI a4
        · exact inI a5
    · obtain ⟨v1, v2, ⟨c, t', hc, rfl⟩, ⟨d, u', hd, rfl⟩, rfl⟩ := hv
      have ec : x.cps.getD i 0 = c := by simp [Array.getD_eq_getD_getElem?, hc]
      have ed : y.cps.getD i 0 = d := by simp [Array.getD_eq_getD_getElem?, hd]
      rw [ec, ed]
      exact .cons (.str _ _) (.cons (.str _ _) .nil)
end
end Mine
namespace Mine
open MineP
section
variable {C : Cx} {σ : Sig} {s s' s'' : Shared} {P : DF → Sig → Prop}
/-- a list that nothing else holds becomes the frame's own -/
theorem store_own2 (hF : FmOk C.F) {A : Around} {i : Nat} {x : Str} {b : Bool} {a : Addr} {vs : List Value} {ds : List D} {Q : Unit → Shared → Prop} (e1 : C.F.lay[i]? = some (x, b)) (O : (C.more [a]).Ok σ s) (ha : a ∉ C.Wo)
    (hp : s.heap.PlainList a vs.toArray) (hd : Dens (a :: C.W σ) s.heap vs ds)
    (h : ∀ s'', C.Ok (σ.set i (some (.own a ds))) s'' → Ext (C.F.env.locals :: C.F.cellAs) s s'' → Q () s'') : wpAny C.X.M A (storeName C.env x (.ref a)) Q NE s := by
  have sw : ∀ c, c ∈ C.W (σ.set i (some (.own a ds))) → c ∈ a :: C.W σ := fun c m => by
    rcases List.mem_append.mp m with m | m
    · exact .tail _ (List.mem_append_left _ m)
    rcases List.mem_cons.mp m with rfl | m
    · exact .tail _ mem_T
    rcases List.mem_cons.mp m with rfl | m
    · exact .tail _ mem_L
    rcases List.mem_append.mp m with m | m
    · exact .tail _ (List.mem_append_right _ (.tail _ (.tail _ (List.mem_append_left _ m))))
    · rcases ownAs_set_mem σ i a ds c m with rfl | m
      · exact .head _
      · exact .tail _ (List.mem_append_right _ (.tail _ (.tail _ (List.mem_append_right _ m))))
  have O' : C.Ok σ s := O.less fun c m => List.mem_append_right _ m
  have nao : a ∉ ownAs σ := fun m => O.ownOut a m (.head _)
  refine store_raw hF (sl := .own a ds) e1 O' rfl (O.vars.ext (fun _ _ e _ => e) fun c m => .inl (sw c m)) ⟨rfl, vs, hp, hd.sub sw⟩ (fun c m => ?_) (ownAs_set_nodup σ i a ds O'.owns nao) (fun j c es e => ?_) fun s'' O'' x => h s'' O'' (x.sub (tgt_in (List.mem_of_getElem? e1)))
  · rcases ownAs_set_mem σ i a ds c m with rfl | m
    · exact ⟨O.fresh c (List.mem_append_left _ (.head _)), ha⟩
    · exact ⟨O'.fresh c (List.mem_append_right _ (.tail _ (.tail _ (List.mem_append_right _ m)))), O'.ownOut c m⟩
  · rcases ownAs_set_mem σ i a ds c (mem_own e) with rfl | m
    · exact ⟨_, hp⟩
    · obtain ⟨k, es', e'⟩ := own_mem m
      exact O'.lists k c es' e'
-- x, y = ([], e)
theorem WS.swapNil (hF : FmOk C.F) {i j : Nat} {x y : Str} {b c : Bool} {elts : List Expr} {lp p1 p2 p3 : Pos} {k1 k2 : Nat} {e : Expr} {q : Int} (l1 : C.F.lay[i]? = some (x, b)) (l2 : C.F.lay[j]? = some (y, c)) (he : EvE C σ e (.int q)) (kk : ∀ a, P .next ((σ.set j (some (.val (.int q)))).set i (some (.own a []))))
    (hw : swappedStores [.Tuple elts k1 p1] (.Tuple [.List [] lp, e] k2 p2) C.env = pure (some [x, y])) (hst : starEach [.List [] lp, e] C.env = [(false, eval (.List [] lp) C.env), (false, eval e C.env)] := by rfl)
    (hs : swapsWithSole [.Tuple elts k1 p1] (.Tuple [.List [] lp, e] k2 p2) p3.line C.env = pure false := by rfl) : WS C σ (exec (.Assign [.Tuple elts k1 p1] (.Tuple [.List [] lp, e] k2 p2) p3) C.env) P := .mk fun A s Q hA O hQ => by
  refine Assign_Tuple_swapped ?_ hs hw
  have hb : backTo p2 (starEach [.List [] lp, e] C.env) = [(false, eval (.List [] lp) C.env), (false, eval e C.env)] := by rw [hst]; rfl
  refine wpAny_Tuple ?_
  rw [hb]
  refine spliced_cons ((EvN.list (C := C) (σ := σ) (p := lp) .nil (by simp)).run A s _ hA O fun v s1 x1 O1 ⟨a, vs, ev, hn, hp, hd⟩ => spliced_cons (he.run A s1 _ hA O1 fun w s2 x2 O2 r2 => spliced_nil ⟨by simp; rw [sizeLine_eq]; omega, ?_⟩))
  subst ev
  cases hd
  cases r2 with
  | int _ t =>
  have O1' : (C.more [a]).Ok σ s1 := O.growOff (W' := [C.X.T]) (fun a o n e => x1.keep a o n e) O.bs.inertT (fun a m => let ⟨o, e⟩ := O.there a m; x1.dom a o e) (fun b m => by rw [List.mem_singleton.mp m]; obtain ⟨n, q⟩ := hp; exact ⟨hn, _, q⟩) O1.bs
  have aW : a ∉ C.W σ := O.off hn
  -- the tuple
  let s3 : Shared := { s2 with heap := s2.heap.push { cls := .type "tuple", data := .seq #[.ref a, .int q t] } }
  have tup : s3.heap.IsTuple s2.heap.objs.size #[.ref a, .int q t] := ⟨_, Heap.get?_push_size _ rfl, rfl, _, rfl⟩
  have key : ∀ (Q' : List Value → Shared → Prop), (∀ h', Heap.ExtBut s3.heap.objs.size s3.heap h' → Q' [.ref a, .int q t] { s3 with heap := h' }) → wpAny C.X.M A (unpackItems (.ref s2.heap.objs.size) 2 none) Q' NE s3 := fun Q' h => by
    have := wpAny_unpackItems_tuple (prog := C.X.prog) (w := C.X.w) (E := NE) (Q := Q') hA.1 tup h
    exact this
  refine key _ fun h4 hx4 => ?_
  let s4 : Shared := { s3 with heap := h4 }
  have k4 : ∀ b o, s2.heap.get? b = some o → h4.get? b = some o := fun b o e => hx4 b o (Nat.ne_of_lt (Heap.lt_size (Heap.get?_push_of_some _ e))) (Heap.get?_push_of_some _ e)
  have x4 : Ext [C.X.T] s2 s4 := ⟨fun b o _ e => k4 b o e, fun b o e => ⟨o, k4 b o e⟩, rfl⟩
  have b4 : Bs C.X s4 := ⟨fun b o e => k4 b o (O2.bs.le b o e), let ⟨ps, e, r⟩ := O2.bs.tab; ⟨ps, k4 _ _ e, r⟩, O2.bs.bare⟩
  have O4 : (C.more [a]).Ok σ s4 := by
    have := O1'.extT (x2.trans' x4) b4
    exact this
  show wpAny C.X.M A (assignInOrder [bindName C.env y, bindName C.env x] [.int q t, .ref a]) _ NE s4
  refine wpAny_assignInOrder_more (wpAny_bindName (store_val (C := C.more [a]) hF (sl := .val (.int q)) l2 rfl O4 (.int q t) fun s5 O5 x5 => ?_))
  have hp5 : s5.heap.PlainList a #[] := by
    obtain ⟨n, q⟩ := plain_keep O2 (plain_keep O1 hp x2) x4
    exact ⟨n, x5.keep _ _ (fun m => aW (List.mem_append_right _ (.tail _ (by
      have m' : a ∈ C.F.env.locals :: C.F.cellAs := m
      rcases List.mem_cons.mp m' with z | m
      · rw [z]; exact .head _
      · exact .tail _ (List.mem_append_left _ m))))) q⟩
  refine wpAny_assignInOrder_more (wpAny_bindName (store_own2 (vs := []) (ds := []) hF l1 O5 (fun m => aW (List.mem_append_left _ m)) hp5 .nil fun s6 O6 x6 => wpAny_assignInOrder_none ?_))
  have x14 : Ext (C.Wr σ) s s4 := ((x1.trans' x2).trans' x4).ofT
  refine hQ .next .next _ s6 (kk a) O6 ((x14.trans' (Ext.ofLC (C := C) x5)).trans' (Ext.ofLC (C := C) x6)) (fun c m => ?_) trivial
  rcases List.mem_cons.mp m with rfl | m
  · exact .inl (.head _)
  rcases List.mem_cons.mp m with rfl | m
  · exact .inl (.tail _ (.head _))
  rcases List.mem_append.mp m with m | m
  · exact .inl (.tail _ (.tail _ (List.mem_append_left _ m)))
  · rcases ownAs_set_mem _ i a [] c m with rfl | m
    · exact .inr hn
    · exact .inl (.tail _ (.tail _ (List.mem_append_right _ ((ownAs_set σ j (.val (.int q)) rfl).subset m))))
end
end Mine
namespace MineP
open PySem.Sem (wp)
open PySem.Builtin.Str (Mapped tableLookup)
section
variable {prog : Program} {w : World} {A : Around} {E : Value → Shared → Prop} {s : Shared}
theorem sub_key_lookup : isSubtype (.type "KeyError") (.type "LookupError") = pure true := by rw [isSubtype_type]; kernel_rfl
theorem table_keep {d : Addr} {c : Nat} {f : Int → Option Value} {Q : Mapped → Shared → Prop} (hd : (d == sysModules) = false) (hh : A.handled = none) (hm : s.heap.MapOf (intKind prog w) d f) (hv : f c = none)
    (h : ∀ h' tk, (∀ b o, s.heap.get? b = some o → h'.get? b = some o) → Q .keep { s with heap := h', toks := tk }) : wpAny (model prog w) A (tableLookup (.ref d) c) Q E s := by
  unfold tableLookup
  refine wpAny_bind (wpAny_attempt ?_)
  refine wpAny_bind (wpAny_mkInt ?_)
  refine wpAny_getItem_missing_of (knd := intKind prog w) (intKind_is prog w c _) hd hh (s := { s with toks := s.toks + 1 }) hm hv fun h' e hx => ?_
  dsimp only
  obtain ⟨k, _, ob, t, e1, e2, _⟩ := hx
  refine wpAny_bind (wpAny_isInstance (T := "KeyError") (b := true) ⟨ob, e1, e2⟩ sub_key_lookup ?_)
  exact wpAny_bind (wpAny_rule (wpAny_pure (h _ _ k)))
theorem table_text {d : Addr} {c : Nat} {f : Int → Option Value} {x : Str} {t : Tok} {Q : Mapped → Shared → Prop} (hm : s.heap.MapOf (intKind prog w) d f) (hv : f c = some (.str x t))
    (h : ∀ tk, Q (.text x) { s with toks := tk }) : wpAny (model prog w) A (tableLookup (.ref d) c) Q E s := by
  unfold tableLookup
  refine wpAny_bind (wpAny_attempt ?_)
  refine wpAny_bind (wpAny_mkInt ?_)
  refine wpAny_getItem_of (knd := intKind prog w) (intKind_is prog w c _) (s := { s with toks := s.toks + 1 }) hm hv ?_
  dsimp only
  refine wpAny_bind (wpAny_of_eq (a := none) rfl ?_)
  refine wpAny_bind (wpAny_of_eq (a := some x) rfl ?_)
  exact wpAny_pure (h _)
theorem translate_one {c : Nat} {t : Tok} {d : Addr} {f : Int → Option Value} {Q : Fin → Shared → Prop} (hc : c < 128) (hd : (d == sysModules) = false) (hh : A.handled = none) (hm : s.heap.MapOf (intKind prog w) d f) (hv : f c = none)
    (h : ∀ h' tk t', (∀ b o, s.heap.get? b = some o → h'.get? b = some o) → Q (.done (.ret (.str ⟨#[c]⟩ t'))) { s with heap := h', toks := tk }) :
    wpAny (model prog w) A (Builtin.«str.translate» ⟨[.str ⟨#[c]⟩ t, .ref d], []⟩) Q E s := by
  have e128 : (#[c] : Array Nat).all (fun x => decide (x < 128)) = true := by simp [hc]
  unfold Builtin.«str.translate»
  refine wpAny_bind (wpAny_of_eq (a := (Value.str ⟨#[c]⟩ t, ⟨#[c]⟩, Value.ref d)) rfl ?_)
  dsimp only
  rw [if_neg (by simp [Str.length]), e128, ← Array.forIn_toList, List.forIn_cons]
  refine wpAny_bind (wpAny_bind ?_)
  rw [if_neg (by decide), if_pos rfl]
  dsimp only [List.lookup]
  refine wpAny_bind (table_keep hd hh hm hv fun h' tk k => ?_)
  dsimp only
  refine wpAny_bind (wpAny_pure ?_)
  dsimp only
  refine wpAny_pure ?_
  dsimp only
  rw [List.forIn_nil]
  refine wpAny_pure ?_
  dsimp only
  rw [if_neg (by decide)]
  refine wpAny_bind (wpAny_mkStr (wpAny_pure (h h' _ _ k)) (by simp [Str.length, sizeLine_eq]))
theorem translate_two {c : Nat} {t u : Tok} {x : Str} {d : Addr} {f : Int → Option Value} {Q : Fin → Shared → Prop} (hc : c < 128) (hm : s.heap.MapOf (intKind prog w) d f) (hv : f c = some (.str x u)) (hx : (x.length == 1) = false) (hx2 : x.length ≤ 10)
    (h : ∀ tk t', Q (.done (.ret (.str x t'))) { s with toks := tk }) :
    wpAny (model prog w) A (Builtin.«str.translate» ⟨[.str ⟨#[c]⟩ t, .ref d], []⟩) Q E s := by
  have e128 : (#[c] : Array Nat).all (fun x => decide (x < 128)) = true := by simp [hc]
  unfold Builtin.«str.translate»
  refine wpAny_bind (wpAny_of_eq (a := (Value.str ⟨#[c]⟩ t, ⟨#[c]⟩, Value.ref d)) rfl ?_)
  dsimp only
  rw [if_neg (by simp [Str.length]), e128, ← Array.forIn_toList, List.forIn_cons]
  refine wpAny_bind (wpAny_bind ?_)
  rw [if_neg (by decide), if_pos rfl]
  dsimp only [List.lookup]
  refine wpAny_bind (table_text hm hv fun tk => ?_)
  dsimp only
  rw [hx, Bool.false_and, if_neg (by decide)]
  dsimp only
  refine wpAny_bind (wpAny_pure ?_)
  dsimp only
  refine wpAny_bind (wpAny_rule ?_)
  rw [if_neg (by decide)]
  refine wpAny_bind (table_text (s := { s with toks := tk }) hm hv fun tk => ?_)
  dsimp only
  refine wpAny_pure ?_
  dsimp only
  rw [List.forIn_nil]
  refine wpAny_pure ?_
  dsimp only
  rw [if_neg (by unfold Builtin.Str.tooLong; rw [sizeLine_eq]; simp; omega)]
  have : List.foldl (fun acc (p : Str) => acc ++ p.cps) #[] [x].reverse = x.cps := by simp
  rw [this]
  exact wpAny_bind (wpAny_mkStr (wpAny_pure (h _ _)) (by rw [sizeLine_eq]; show x.length ≤ _; omega))
end
end MineP
namespace Mine
open MineP
section
variable {C : Cx} {σ : Sig} {s s' s'' : Shared} {P : DF → Sig → Prop}
theorem EvE.meth1V {o e : Expr} {name x : Str} {apos p : Pos} {id : String} {d : D} {v : Value} (ho : EvE C σ o (.str x)) (hs : PySem.Slot "str" name id) (hty : typeOf (.builtin id) = pure (.type "method_descriptor")) (ha : EvV C σ e v)
    (hop : ∀ (A : Around) (s : Shared) (Q : Value → Shared → Prop) (t : Tok), AOk C.n A → C.Ok σ s → (∀ v' s', Ext [C.X.T] s s' → C.Ok σ s' → Den (C.W σ) s'.heap v' d → Q v' s') → wpAny C.X.M A (call (.builtin id) [.str x t, v]) Q NE s)
    (hst : starEach [e] C.env = [(false, eval e C.env)] := by rfl) (hb : attributeBase o name C.env (eval o C.env) = eval o C.env := by rfl) (hl : (apos.endLine == p.line) = true := by rfl)
    (hk : ((((backTo p (starEach [e] C.env)).all fun x => !x.fst) && (backToKw p (keywordEach [] C.env)).all fun x => x.fst.isSome) && decide (([e].length + ([] : List Keyword).length + if ([] : List Keyword).isEmpty = true then 0 else 1) < 30)) = true := by rfl) :
    EvE C σ (.Call (.Attribute o name apos) [e] [] p) d := .mk fun A s Q hA O hQ =>
  wpAny_Call_method hb hk hl F.plainAttrs_str hs hty (ho.run A s _ hA O fun ov s1 x1 O1 d1 => by
    cases d1 with
    | str _ t =>
    refine And.intro (typeIs_str _ _ _) (And.intro (fun a e => nomatch e) ?_)
    refine callWith_of (P := fun _ => True) (by rw [hst]; rfl) (fun h _ => ⟨.machine, .inr (.inl rfl), Looks.of_pure rfl⟩) ?_
    have hbb : backTo p (starEach [e] C.env) = [(false, eval e C.env)] := by rw [hst]; rfl
    rw [hbb]
    refine evalArgs_plain (spliced_cons (ha.run A s1 _ hA O1 fun v' s2 x2 O2 ev => spliced_nil ⟨trivial, ?_⟩))
    subst ev
    exact hop A s2 Q t hA O2 fun v' s3 x3 O3 r => hQ v' s3 ((x1.trans' x2).trans' x3) O3 r)
/-- x.translate(the map), x one sign -/
theorem EvE.translate {o e : Expr} {apos p : Pos} {c : Nat} {d : Addr} {f : Int → Option Value} {y : Str} (ho : EvE C σ o (.str ⟨#[c]⟩)) (ha : EvV C σ e (.ref d)) (hc : c < 128) (hd : (d == sysModules) = false) (hm : C.X.hb.MapOf (intKind C.X.prog C.X.w) d f)
    (hy : (f c = none ∧ y = ⟨#[c]⟩) ∨ (∃ u, f c = some (.str y u) ∧ (y.length == 1) = false ∧ y.length ≤ 10))
    (hst : starEach [e] C.env = [(false, eval e C.env)] := by rfl) (hb : attributeBase o "translate" C.env (eval o C.env) = eval o C.env := by rfl) (hl : (apos.endLine == p.line) = true := by rfl)
    (hk : ((((backTo p (starEach [e] C.env)).all fun x => !x.fst) && (backToKw p (keywordEach [] C.env)).all fun x => x.fst.isSome) && decide (([e].length + ([] : List Keyword).length + if ([] : List Keyword).isEmpty = true then 0 else 1) < 30)) = true := by rfl) :
    EvE C σ (.Call (.Attribute o "translate" apos) [e] [] p) (.str y) := by
  refine EvE.meth1V ho F.slot_str_translate F.type_str_translate ha (fun A s Q t hA O hQ => ?_) hst hb hl hk
  have hm' : s.heap.MapOf (intKind C.X.prog C.X.w) d f := let ⟨o, es, ep, e, r⟩ := hm; ⟨o, es, ep, O.bs.le _ _ e, r⟩
  refine call_meetsIn (S := fun A' R s' => A' = A ∧ s' = s ∧ ∀ h' tk t', (∀ b o, s.heap.get? b = some o → h'.get? b = some o) → R (.ok (.ret (.str y t'))) { s with heap := h', toks := tk }) F.slot_str_translate (typeIs_str _ _ _) F.entry_str_translate (F.args_str_translate_2 _ _) (fun A' R s' ⟨e1, e2, h⟩ => ?_) ⟨rfl, rfl, fun h' tk t' k => hQ _ _ (Ext.grew k) (O.grew k) (.str _ _)⟩
  subst e1 e2
  rcases hy with ⟨hv, rfl⟩ | ⟨u, hv, h1, h2⟩
  · exact translate_one hc hd hA.1 hm' hv fun h' tk t' k => h h' tk t' k
  · exact translate_two hc hm' hv h1 h2 fun tk t' => h _ tk t' fun _ _ e => e
end
end Mine
namespace MineP
open PySem.Sem (wp)
namespace F
theorem slot_md_get : Slot "method_descriptor" "__get__" "method_descriptor.__get__" :=
  .of (owner := "method_descriptor") (n := "__get__") (by rw [typeLookup_type, builtinLookup_eq_fast]; kernel_rfl) (by decide +kernel) (by decide +kernel) (by decide +kernel)
    (by first | exact .inl (by decide +kernel) | exact .inr (by decide +kernel)) (by rw [isSubtype_type]; kernel_rfl)
theorem entry_md_get : entryFor table "method_descriptor.__get__" = some Builtin.«method_descriptor.__get__» := entryFor_of_tree (by kernel_rfl)
theorem lk_md_set : typeLookup (.type "method_descriptor") "__set__" = pure none := by rw [typeLookup_type, builtinLookup_eq_fast]; kernel_rfl
theorem lk_md_delete : typeLookup (.type "method_descriptor") "__delete__" = pure none := by rw [typeLookup_type, builtinLookup_eq_fast]; kernel_rfl
theorem sub_list_append_owner : isSubtype (.type "list") (.type (".".intercalate ("list.append".cutAt '.').dropLast)) = pure true := by
  rw [show (".".intercalate ("list.append".cutAt '.').dropLast) = "list" by decide +kernel, isSubtype_type]; kernel_rfl
theorem args_md_get (a b c : Value) : argsOk "method_descriptor.__get__" ⟨[a, b, c], []⟩ := by
  unfold argsOk; kernel_rfl
end F
section
variable {prog : Program} {w : World} {A : Around} {E : Value → Shared → Prop} {h : Heap} {g : Array GenState} {d : Drawn} {t : Nat} {os : OsState} {a : Addr} {o : Obj}
theorem append_get_list {R : Result → Shared → Prop} (hx : h.get? a = some o) (hc : o.cls = .type "list") (hq : R (.ok (.ret (.ref h.objs.size))) ⟨h.push { cls := .type "builtin_function_or_method", data := .fields #[.builtin "list.append", .ref a] }, g, d, t, os⟩) :
    codeAny (model prog w) A (.call (.builtin "method_descriptor.__get__") ⟨[.builtin "list.append", .ref a, .type "list"], []⟩) R ⟨h, g, d, t, os⟩ := by
  have hT : (⟨h, g, d, t, os⟩ : Shared).TypeIs (.ref a) "list" := ⟨_, hx, hc⟩
  have hT5 : (⟨h, g, d, t, os⟩ : Shared).TypeIs (.builtin "list.append") "method_descriptor" := F.type_list_append
  have f8 := F.sub_list_append_owner
  refine codeAny_call_builtin F.slot_md_get.plain F.entry_md_get (F.slot_md_get.check _ _ _ _ _ _ _ _ hT5 (F.args_md_get _ _ _) ?_)
  repeat (any_goals (first | assumption | wp_step))
theorem append_entry_list {tk : Tok} {Q : Fin → Shared → Prop} {its : Array Value} {n : Nat} (hx : h.get? a = some { cls := .type "list", dict := none, data := .seq its n, slots := #[] }) (hq : Q (.done (.ret (.ref h.objs.size))) ⟨h.push { cls := .type "builtin_function_or_method", data := .fields #[.builtin "list.append", .ref a] }, g, d, t, os⟩) :
    wpAny (model prog w) A (Builtin.«object.__getattribute__» ⟨[.ref a, .str "append" tk], []⟩) Q E ⟨h, g, d, t, os⟩ := by
  have hT : (⟨h, g, d, t, os⟩ : Shared).TypeIs (.ref a) "list" := ⟨_, hx, rfl⟩
  have hT5 : (⟨h, g, d, t, os⟩ : Shared).TypeIs (.builtin "list.append") "method_descriptor" := F.type_list_append
  have f4 := F.slot_list_append.lookup
  have f5 := F.type_list_append
  have f6 := F.slot_md_get.lookup
  have f7 := F.lk_md_set
  have f8 := F.lk_md_delete
  repeat (any_goals (first | assumption | wp_step))
  exact append_get_list hx rfl (wpAny_pure hq)
theorem append_call_list {tk : Tok} {R : Result → Shared → Prop} {its : Array Value} {n : Nat} (hx : h.get? a = some { cls := .type "list", dict := none, data := .seq its n, slots := #[] }) (hq : R (.ok (.ret (.ref h.objs.size))) ⟨h.push { cls := .type "builtin_function_or_method", data := .fields #[.builtin "list.append", .ref a] }, g, d, t, os⟩) :
    codeAny (model prog w) A (.call (.builtin "list.__getattribute__") ⟨[.ref a, .str "append" tk], []⟩) R ⟨h, g, d, t, os⟩ :=
  codeAny_call_builtin F.slot_list_getattribute.plain F.entry_list_ga (F.slot_list_getattribute.check _ _ _ _ _ _ _ _ (show (⟨h, g, d, t, os⟩ : Shared).TypeIs (.ref a) "list" from ⟨_, hx, rfl⟩) (F.args_list_getattribute_2 _ _) (append_entry_list hx hq))
theorem append_by_list {tk : Tok} {Q : Value → Shared → Prop} {its : Array Value} {n : Nat} (hx : h.get? a = some { cls := .type "list", dict := none, data := .seq its n, slots := #[] }) (hq : Q (.ref h.objs.size) ⟨h.push { cls := .type "builtin_function_or_method", data := .fields #[.builtin "list.append", .ref a] }, g, d, t, os⟩) :
    wpAny (model prog w) A (getAttrBy (.ref a) (.str "append" tk) true true) Q E ⟨h, g, d, t, os⟩ := by
  have hT : (⟨h, g, d, t, os⟩ : Shared).TypeIs (.ref a) "list" := ⟨_, hx, rfl⟩
  have f2 := F.slot_list_getattribute.lookup
  have f3 := F.slot_list_getattribute.bind (.ref a)
  repeat (any_goals (first | assumption | wp_step))
  refine append_call_list hx ?_
  repeat (any_goals (first | assumption | wp_step))
theorem append_attr_list {Q : Value → Shared → Prop} {its : Array Value} {n : Nat} (hx : h.get? a = some { cls := .type "list", dict := none, data := .seq its n, slots := #[] }) (hq : Q (.ref h.objs.size) ⟨h.push { cls := .type "builtin_function_or_method", data := .fields #[.builtin "list.append", .ref a] }, g, d, t + 1, os⟩) :
    wpAny (model prog w) A (getAttr (.ref a) "append" true) Q E ⟨h, g, d, t, os⟩ := by
  unfold getAttr
  refine wpAny_bind (wpAny_mkText ?_)
  exact append_by_list hx hq
end
end MineP
namespace MineP
open PySem.Sem (wp)
section
variable {prog : Program} {w : World} {A : Around} {E : Value → Shared → Prop} {s : Shared}
theorem sub_list_module : isSubtype (.type "list") (.type "module") = pure false := by rw [isSubtype_type]; kernel_rfl
theorem sig_append : ∃ sig, Manifest.signature? "list.append" = some sig ∧ ∀ (a v : Value), Bind.checkArgs "list.append" { sig with full := toString (Bind.lastOf "list") ++ toString "." ++ toString (Bind.lastOf "list.append") } ⟨[a, v], []⟩ = pure () :=
  have h : (Manifest.signature? "list.append").isSome = true := by kernel_rfl
  ⟨(Manifest.signature? "list.append").get h, (Option.some_get h).symm, fun a v => by kernel_rfl⟩
theorem bound_append {a q : Addr} {v : Value} {items : Array Value} {Q : Value → Shared → Prop} (hq : s.heap.get? q = some (Mine.appObj a)) (hl : s.heap.PlainList a items)
    (hQ : ∀ h', h'.PlainList a (items.push v) → Heap.SameBut a s.heap h' → Q .none { s with heap := h' }) (hsz : items.size ≤ sizeLine) : wpAny (model prog w) A (call (.ref q) [v]) Q E s := by
  refine wpAny_call (codeAny_of_tree ?_)
  show wpAny _ A.in1 (callAny (.ref q) ⟨[v], []⟩) _ _ s
  simp only [callAny]
  refine wpAny_bind (wpAny_load hq ?_)
  dsimp only
  rw [if_pos (by decide)]
  obtain ⟨n, ho⟩ := hl
  have hT : s.TypeIs (.ref a) "list" := ⟨_, ho, rfl⟩
  show wpAny _ A.in1 (do
    if (Value.type "builtin_function_or_method" != Value.type "method") = true then do
        checkBoundCall "list.append" ⟨[.ref a, v], []⟩
        again (.builtin "list.append" ⟨[.ref a, v], []⟩)
      else again (.call (.builtin "list.append") ⟨[.ref a, v], []⟩)) _ _ s
  rw [if_pos (by decide)]
  refine wpAny_bind ?_
  unfold checkBoundCall
  obtain ⟨sig, hs, hc⟩ := sig_append
  rw [hs, show builtinKind "list.append" = some .method by decide +kernel]
  dsimp only
  rw [if_neg (by decide)]
  refine wpAny_bind (wpAny_isInstance (T := "list") (b := false) hT sub_list_module ?_)
  rw [if_neg (by decide +kernel)]
  refine wpAny_bind ?_
  unfold isType
  dsimp only
  refine wpAny_bind (wpAny_loadPart ho ?_)
  refine wpAny_pure ?_
  dsimp only
  rw [if_neg (by decide)]
  refine wpAny_bind (wpAny_typeOf hT ?_)
  dsimp only
  refine wpAny_of_eq (hc (.ref a) v) ?_
  refine wpAny_pure ⟨Code.quiet_builtin _ (by decide +kernel), codeAny_builtin entry_list_append ?_⟩
  rw [Around.under_plain (show (Code.builtin "list.append" ⟨[.ref a, v], []⟩).weight = 0 from rfl) rfl]
  show wpAny _ A.in1 (updateSeq a (·.push v) >>= fun _ => ret .none) _ _ s
  refine wpAny_bind ?_
  refine wpAny_updateSeq ho rfl (wpAny_pure (hQ _ ⟨n + 1, ?_⟩ (Heap.SameBut.update ..)))
  rw [Heap.get?_update_self _ ho (by rw [Obj.mapSeq_push_plain]; rfl), Obj.mapSeq_push_plain]
end
end MineP
namespace Mine
open MineP
section
variable {C : Cx} {σ : Sig} {s s' s'' : Shared} {P : DF → Sig → Prop}
/-- y = x.append -/
theorem WS.bindApp (hF : FmOk C.F) {i j : Nat} {x y : Str} {b c : Bool} {px py ap p : Pos} {a : Addr} {ds : List D} (l1 : C.F.lay[i]? = some (x, b)) (s1 : σ[i]? = some (some (.own a ds))) (l2 : C.F.lay[j]? = some (y, c)) (k : P .next (σ.set j (some (.app a))))
    (hb : attributeBase (.Name x px) "append" C.env (eval (.Name x px) C.env) = eval (.Name x px) C.env := by rfl) (hsw : swapsWith (.Attribute (.Name x px) "append" ap) (some (.Name y py)) p.line C.env = pure false := by rfl) :
    WS C σ (exec (.Assign [.Name y py] (.Attribute (.Name x px) "append" ap) p) C.env) P := .mk fun A s Q hA O hQ => by
  refine wpAny_Assign_Name ?_ hsw
  rw [arm_eval_Attribute, hb]
  refine wpAny_bind (own_name hF l1 s1 O fun vs pl hd => wpAny_bind (wpAny_standAt (wpAny_bind (wpAny_holding ?_))))
  obtain ⟨n, e⟩ := pl
  refine append_attr_list (h := s.heap) (g := s.gens) (d := s.drawn) (t := s.toks) (os := s.os) e ?_
  refine wpAny_bind (wpAny_pure (wpAny_pure ?_))
  have O1 : C.Ok σ { s with heap := s.heap.push (appObj a), toks := s.toks + 1 } := O.push
  refine store_val hF (sl := .app a) l2 rfl O1 ⟨_, rfl, O.off get_size, Heap.get?_push_size _ rfl⟩ fun s2 O2 x2 => ?_
  exact hQ .next .next _ s2 k O2 ((Ext.push (W := C.Wr σ) (s := s) (o := appObj a) (t := s.toks + 1)).trans' x2.ofLC) (Sub.of_eq (ownAs_set σ j (.app a) rfl).subset) trivial
/-- add(e), add the own list's append -/
theorem WS.callApp (hF : FmOk C.F) {i j : Nat} {y : Str} {b : Bool} {py cp p : Pos} {a : Addr} {ds : List D} {e : Expr} {d : D} (l2 : C.F.lay[j]? = some (y, b)) (s2 : σ[j]? = some (some (.app a))) (s1 : σ[i]? = some (some (.own a ds))) {x : Str} {bx : Bool} (l1 : C.F.lay[i]? = some (x, bx)) (nr : NoRo σ) (he : EvE C σ e d) (hz : ds.length ≤ sizeLine)
    (k : P .next (σ.set i (some (.own a (ds ++ [d]))))) (hst : starEach [e] C.env = [(false, eval e C.env)] := by rfl)
    (hi : interactive C.env = false := by rfl) : WS C σ (exec (.Expr (.Call (.Name y py) [e] [] cp) p) C.env) P := .mk fun A s Q hA O hQ => by
  have hb : backTo cp (starEach [e] C.env) = [(false, eval e C.env)] := by rw [hst]; rfl
  obtain ⟨m, hn, hv⟩ := O.vars
  obtain ⟨v, hh, q, ev, nq, gq⟩ := hv j y b _ l2 s2
  subst ev
  have hm := List.mem_of_getElem? l2
  refine wpAny_Expr (wpAny_Call_NameR (wpAny_Name ?_ (hF.dbgL _ hm))) hi rfl
  have body : wpAny C.X.M A (callWith cp (.ref q) [] (backTo cp (starEach [e] C.env)) []) (fun v s' => match v with | .ref _ => False | _ => Q .next s') NE s := by
    refine callWith_of (P := fun hp => hp.get? q = some (appObj a)) (by rw [hb]; rfl) (fun hp hq => ⟨.machine, .inr (.inl rfl), ?_⟩) ?_
    · have : keeperOf (.ref q) = (do
        let o ← load q
        match o.data with
        | .func _ => return .frame
        | .cls _ => return if (← specialOf (.ref q) "__call__") == some (.builtin "type.__call__") then .machine else .caller
        | .fields vs =>
          if o.cls != .type "method" then
            return if o.cls == .type "builtin_function_or_method" || o.cls == .type "method-wrapper" then .machine else .caller
          let .ref g := vs.getD 0 .none | return .machine
          return match (← load g).data with | .func _ => .boundFrame | _ => .caller
        | _ => return .caller) := rfl
      rw [this]
      refine (Looks.ld (part := none) hq).andThen ?_
      exact Looks.of_pure rfl
    · rw [hb]
      refine evalArgs_plain (spliced_cons (he.run A s _ hA O fun v s1' x1 O1 d1 => spliced_nil ⟨?_, ?_⟩))
      · exact x1.inert O.bs.inertT _ _ gq (fun i => i.2 rfl)
      · have gq1 : s1'.heap.get? q = some (appObj a) := x1.inert O.bs.inertT _ _ gq (fun i => i.2 rfl)
        obtain ⟨m1, hn1, hv1⟩ := O1.vars
        obtain ⟨v1, _, _, ws, pl1, hd1⟩ := hv1 i x bx _ l1 s1
        rw [List.nil_append]
        refine bound_append gq1 pl1 (fun h' hp hs => ?_) (by have := hd1.length; simp; omega)
        obtain ⟨O2, x2⟩ := write_own (tk := s1'.toks) s1 nr O1 hs (ws := ws ++ [v]) (by simpa using hp) (hd1.append (.cons d1 .nil))
        exact hQ .next .next _ _ k O2 (x1.ofT.trans' x2) (Sub.of_eq fun c m => ownAs_same σ i a ds _ s1 ▸ m) trivial
  cases b with
  | false => exact wpAny_loadName_local hF.kind (hF.names _ hm) hn hh body
  | true =>
    obtain ⟨c, hc⟩ := hF.cells _ hm rfl
    refine wpAny_loadName_cell hF.kind (hF.names _ hm) hc (v := .ref q) ?_ body
    have hcx : C.F.cell y = c := by unfold Fm.cell; rw [hc]; rfl
    exact hcx ▸ hh
end
end Mine
namespace Mine
open MineP
section
variable {C : Cx} {σ : Sig} {s s' s'' : Shared} {P : DF → Sig → Prop}
theorem OpB.isNot_str_obj {x : Str} {a : Addr} : OpB C σ (compareOp .IsNot) (.str x) (.obj a) (.bool true) := fun A s Q va vb hA O da db hQ => by
  cases da with
  | str _ t =>
  cases db with
  | obj n l =>
  exact wpAny_isNot_other (by rfl) (fun e => nomatch e) (hQ _ s (Ext.refl _ _) O (.bool _))
theorem EvE.fstr3 {e : Expr} {a x b : Str} {k1 k2 : Nat} {p1 p2 p3 p : Pos} (h : EvE C σ e (.str x)) (hz : a.length + x.length + b.length ≤ 1000) : EvE C σ (.JoinedStr [.Constant (.str a) k1 p1, .FormattedValue e (-1) none p2, .Constant (.str b) k2 p3] p) (.str (a ++ x ++ b)) := .mk fun A s Q hA O hQ => by
  refine wpAny_JoinedStr ?_
  show wpAny C.X.M A (eval (.Constant (.str a) k1 p1) C.env) _ NE s
  have l0 : ∀ {u : Nat}, u ≤ 1000 → u ≤ sizeLine := fun h => by rw [sizeLine_eq]; omega
  have ea : ∀ (y z : Str), (y ++ z).length = y.length + z.length := fun y z => by show (y.cps ++ z.cps).size = _; rw [Array.size_append]; rfl
  have e0 : Str.empty ++ a = a := by show (⟨#[] ++ a.cps⟩ : Str) = a; simp
  refine wpAny_Constant_str ⟨a, _, rfl, by rw [e0]; exact l0 (by omega), ?_⟩
  rw [e0]
  show wpAny C.X.M A (eval (.FormattedValue e (-1) none p2) C.env) _ NE _
  refine wpAny_FormattedValue_plain (h.run A _ _ hA O.toks fun v s1 x1 O1 d1 => ?_)
  cases d1 with
  | str _ t =>
  have fin : ∀ (s2 : Shared) (t2 : Tok), C.Ok σ s2 → Ext [C.X.T] s s2 → ∃ y t', Value.str x t2 = Value.str y t' ∧ (a ++ y).length ≤ sizeLine ∧ Joins (model C.X.prog C.X.w) A NE (evalEach [.Constant (.str b) k2 p3] C.env) (a ++ y)
      (fun out s₁ => out.length ≤ sizeLine ∧ Q (Value.str out s₁.toks) { s₁ with toks := s₁.toks + 1 }) s2 := fun s2 t2 O2 x2 => by
    refine ⟨x, t2, rfl, by rw [ea]; exact l0 (by omega), ?_⟩
    show wpAny C.X.M A (eval (.Constant (.str b) k2 p3) C.env) _ NE _
    refine wpAny_Constant_str ⟨b, _, rfl, by rw [ea, ea]; exact l0 (by omega), ?_⟩
    exact ⟨by rw [ea, ea]; exact l0 (by omega), hQ _ _ (x2.trans' (Ext.toks (t := s2.toks + 1 + 1))) (O2.toks (t := s2.toks + 1 + 1)) (.str _ _)⟩
  have x1' : Ext [C.X.T] s s1 := (Ext.toks (t := s.toks + 1)).trans' x1
  exact wpAny_formatField_str (fin s1 t O1 x1') (fin _ _ O1.toks (x1'.trans' Ext.toks)) (l0 (by omega))
end
end Mine
namespace Mine
open MineP
open Builtin Builtin.Str StrLaws
section
theorem occ_first {x : Str} {c lo hi : Nat} (h1 : lo < hi) (h2 : x.cps[lo]? = some c) : occurrences x ⟨#[c]⟩ lo hi 1 = [lo] := by
  rw [occ_eq]
  obtain ⟨m, hm⟩ : ∃ m, hi + 1 - lo = m + 1 := ⟨hi - lo, by omega⟩
  rw [hm, List.range'_succ, List.forIn_cons]
  unfold occBody
  rw [if_pos ⟨⟨⟨by simp, Nat.le_refl _⟩, by show lo + 1 ≤ hi; omega⟩, ((subAt_one x c lo).mpr (by simpa using h2)).2⟩]
  have more : ∀ (l : List Nat) (st : Array Nat × Nat), st.1 = #[lo] → (forIn l st (occBody x ⟨#[c]⟩ hi 1)).run.fst = #[lo] := by
    intro l
    induction l with
    | nil => intro st h; exact h
    | cons a l ih =>
      intro st h
      rw [List.forIn_cons]
      unfold occBody
      rw [if_neg (by rw [h]; simp)]
      exact ih _ h
  have := more (List.range' (lo + 1) m) (#[lo], lo + 1) rfl
  show (forIn (List.range' (lo + 1) m) ((#[] : Array Nat).push lo, lo + 1) (occBody x ⟨#[c]⟩ hi 1)).run.fst.toList = [lo]
  rw [show ((#[] : Array Nat).push lo) = #[lo] from rfl, this]
theorem occ_past {x : Str} {c lo hi : Nat} (h1 : hi < lo) : occurrences x ⟨#[c]⟩ lo hi 1 = [] := by
  rw [occ_eq, show hi + 1 - lo = 0 by omega]
  rfl
theorem gives_find4 (x y : Str) (i j : Nat) (t u v w : Tok) (hj : j ≤ x.length) : Gives («str.find» ⟨[.str x t, .str y u, .int i v, .int j w], []⟩) (.int (match occurrences x y i j 1 with | k :: _ => (k : Int) | [] => -1)) := by
  have e1 : fromIndex x.length (i : Int) = i := by unfold fromIndex; rw [if_neg (by omega)]; omega
  have e2 : min (fromIndex x.length (j : Int)) x.length = j := by unfold fromIndex; rw [if_neg (by omega)]; omega
  show Gives (match occurrences x y (fromIndex x.length i) (min (fromIndex x.length j) x.length) 1 with | k :: _ => retInt k | [] => (do rule "str.find.not-found"; retInt (-1))) _
  rw [e1, e2]
  cases occurrences x y i j 1 with
  | nil => exact .rule (.of_eq rfl)
  | cons k _ => exact .of_eq rfl
variable {C : Cx} {σ : Sig} {s s' s'' : Shared} {P : DF → Sig → Prop}
theorem OpC.find4 {x y : Str} {i j : Nat} (hj : j ≤ x.length) : OpC C σ (.builtin "str.find") [.str x, .str y, .int i, .int j] (.int (match occurrences x y i j 1 with | k :: _ => (k : Int) | [] => -1)) := fun A s Q vs hA O r hQ => by
  cases r with | cons r rs => cases rs with | cons q rs => cases rs with | cons a rs => cases rs with | cons b rs =>
  cases rs; cases r; cases q; cases a; cases b
  exact call_gives F.slot_str_find (typeIs_str _ _ _) F.entry_str_find (F.args_str_find_4 _ _ _ _) (gives_find4 x y i j _ _ _ _ hj) (hQ _ _ Ext.toks O.toks (.int _ _))
theorem OpB.notIn_one {x : Str} {c : Nat} : OpB C σ (compareOp .NotIn) (.str ⟨#[c]⟩) (.str x) (.bool (!decide (c ∈ x.cps.toList))) := fun A s Q va vb hA O da db hQ => by
  cases da; cases db
  exact P.notIn_str (by rw [found_one]; exact hQ _ s (Ext.refl _ _) O (.bool _))
/-- x.replace(y, z), y not there -/
theorem OpC.replace_none {x y z : Str} (h : (occurrences x y 0 x.length (x.length + 1)).isEmpty = true) : OpC C σ (.builtin "str.replace") [.str x, .str y, .str z] (.str x) := fun A s Q vs hA O r hQ => by
  cases r with | cons r rs => cases rs with | cons q rs => cases rs with | cons a rs =>
  cases rs; cases r; cases q; cases a
  refine call_gives F.slot_str_replace (typeIs_str _ _ _) F.entry_str_replace (F.args_str_replace_3 _ _ _) (gives_str_replace x y z _ _ _ (fun q => by rw [h] at q; cases q)) ?_
  rw [h, Bool.true_or, if_pos rfl]
  exact hQ _ s (Ext.refl _ _) O (.str _ _)
theorem occ_none_of {x : Str} {c : Nat} (h : c ∉ x.cps.toList) (n : Nat) : (occurrences x ⟨#[c]⟩ 0 x.length (n + 1)).isEmpty = true := by
  have : ∀ i ∈ occurrences x ⟨#[c]⟩ 0 x.length (n + 1), False := fun i hi => by
    have := (subAt_one x c i).mp (occ_spec x ⟨#[c]⟩ 0 x.length (n + 1) i hi)
    exact h (List.mem_of_getElem? this)
  cases q : occurrences x ⟨#[c]⟩ 0 x.length (n + 1) with
  | nil => rfl
  | cons i r => exact (this i (by rw [q]; exact .head _)).elim
end
end Mine
namespace Mine
open MineP
open Builtin Builtin.Str StrLaws
section
variable {prog : Program} {w : World} {A : Around} {E : Value → Shared → Prop} {s : Shared} {env : Env}
/-- o.replace(y, z), two texts written -/
theorem raw_replace {o : Expr} {y z : Str} {k1 k2 : Nat} {p1 p2 ap p : Pos} {Q : Value → Shared → Prop} (hb : attributeBase o "replace" env (eval o env) = eval o env) (hl : (ap.endLine == p.line) = true)
    (hk : ((((backTo p (starEach [.Constant (.str y) k1 p1, .Constant (.str z) k2 p2] env)).all fun x => !x.fst) && (backToKw p (keywordEach [] env)).all fun x => x.fst.isSome) && decide (([Expr.Constant (.str y) k1 p1, .Constant (.str z) k2 p2].length + ([] : List Keyword).length + if ([] : List Keyword).isEmpty = true then 0 else 1) < 30)) = true)
    (h : wpAny (model prog w) A (eval o env) (fun v s1 => ∃ x t, v = .str x t ∧ wpAny (model prog w) A (call (.builtin "str.replace") [.str x t, .str y s1.toks, .str z (s1.toks + 1)]) Q E { s1 with toks := s1.toks + 1 + 1 }) E s) :
    wpAny (model prog w) A (eval (.Call (.Attribute o "replace" ap) [.Constant (.str y) k1 p1, .Constant (.str z) k2 p2] [] p) env) Q E s := by
  refine wpAny_Call_method hb hk hl F.plainAttrs_str F.slot_str_replace F.type_str_replace (wpAny_mono h (fun v s1 ⟨x, t, ev, h1⟩ => ?_) fun _ _ e => e)
  subst ev
  refine And.intro (typeIs_str _ _ _) (And.intro (fun a e => nomatch e) ?_)
  refine callWith_of (P := fun _ => True) (by rfl) (fun h _ => ⟨.machine, .inr (.inl rfl), Looks.of_pure rfl⟩) ?_
  refine evalArgs_plain ?_
  show wpAny (model prog w) A (spliced [(false, eval (.Constant (.str y) k1 p1) env), (false, eval (.Constant (.str z) k2 p2) env)]) _ E s1
  exact spliced_cons (wpAny_Constant_str (spliced_cons (wpAny_Constant_str (spliced_nil ⟨trivial, h1⟩))))
noncomputable def escD (c : Nat) : Str := if c = 45 then ⟨#[92, 45]⟩ else ⟨#[c]⟩
/-- s.replace('\\', '\\\\').replace('-', '\\-'), s one sign, no backslash -/
theorem raw_replace2 {o : Expr} {c : Nat} {k1 k2 k3 k4 : Nat} {p1 p2 p3 p4 ap ap' p p' : Pos} {Q : Value → Shared → Prop} (hc : c ≠ 92) (hl : (ap.endLine == p.line) = true) (hl' : (ap'.endLine == p'.line) = true) (hb : attributeBase o "replace" env (eval o env) = eval o env)
    (h : wpAny (model prog w) A (eval o env) (fun v s1 => ∃ t, v = .str ⟨#[c]⟩ t ∧ ∀ t' tk, Q (.str (escD c) t') { s1 with toks := tk }) E s)
    (hk : ∀ (y z : Str) (k1 k2 : Nat) (p1 p2 p : Pos), ((((backTo p (starEach [.Constant (.str y) k1 p1, .Constant (.str z) k2 p2] env)).all fun x => !x.fst) && (backToKw p (keywordEach [] env)).all fun x => x.fst.isSome) && decide (([Expr.Constant (.str y) k1 p1, .Constant (.str z) k2 p2].length + ([] : List Keyword).length + if ([] : List Keyword).isEmpty = true then 0 else 1) < 30)) = true := by intros; rfl) :
    wpAny (model prog w) A (eval (.Call (.Attribute (.Call (.Attribute o "replace" ap) [.Constant (.str "\\") k1 p1, .Constant (.str "\\\\") k2 p2] [] p) "replace" ap') [.Constant (.str "-") k3 p3, .Constant (.str "\\-") k4 p4] [] p') env) Q E s := by
  refine raw_replace rfl hl' (hk ..) (raw_replace hb hl (hk ..) (wpAny_mono h (fun v s1 ⟨t, ev, hQ⟩ => ⟨_, t, ev, ?_⟩) fun _ _ e => e))
  have n1 : (occurrences ⟨#[c]⟩ ⟨#[92]⟩ 0 (⟨#[c]⟩ : Str).length ((⟨#[c]⟩ : Str).length + 1)).isEmpty = true := occ_none_of (x := ⟨#[c]⟩) (by simp; exact Ne.symm hc) _
  refine call_gives F.slot_str_replace (typeIs_str _ _ _) F.entry_str_replace (F.args_str_replace_3 _ _ _) (gives_str_replace ⟨#[c]⟩ ("\\" : Str) ("\\\\" : Str) _ _ _ (fun q => by rw [show ("\\" : Str) = ⟨#[92]⟩ from rfl, n1] at q; cases q)) ?_
  rw [show ("\\" : Str) = ⟨#[92]⟩ from rfl, n1, Bool.true_or, if_pos rfl]
  refine ⟨_, t, rfl, ?_⟩
  by_cases h45 : c = 45
  · subst h45
    refine SC.replace (Nat.succ_ne_zero _) (Nat.succ_ne_zero _) (Nat.succ_ne_self _).symm (by decide) (by decide) fun t' k => ?_
    have e : Txt.replace ⟨#[45]⟩ ("-" : Str) ("\\-" : Str) = escD 45 := by decide +kernel
    rw [e]
    exact hQ t' k
  · have n2 : (occurrences ⟨#[c]⟩ ⟨#[45]⟩ 0 (⟨#[c]⟩ : Str).length ((⟨#[c]⟩ : Str).length + 1)).isEmpty = true := occ_none_of (x := ⟨#[c]⟩) (by simp; exact Ne.symm h45) _
    refine call_gives F.slot_str_replace (typeIs_str _ _ _) F.entry_str_replace (F.args_str_replace_3 _ _ _) (gives_str_replace ⟨#[c]⟩ ("-" : Str) ("\\-" : Str) _ _ _ (fun q => by rw [show ("-" : Str) = ⟨#[45]⟩ from rfl, n2] at q; cases q)) ?_
    rw [show ("-" : Str) = ⟨#[45]⟩ from rfl, n2, Bool.true_or, if_pos rfl]
    have := hQ t (s1.toks + 1 + 1 + 1 + 1)
    unfold escD at this
    rw [if_neg h45] at this
    exact this
end
end Mine
namespace Mine
open MineP
open Builtin Builtin.Re
section
variable {M : Model} {A : Around} {E : Value → Shared → Prop} {s : Shared}
/-- the machine run, with so many turns at most -/
noncomputable def finds : Nat → Sre.M → Option Sre.M
  | 0, _ => none
  | k + 1, m =>
    let m := m.runFor reTurnSteps
    if m.outcome.isSome then some m else finds k m
noncomputable def failsIn (k : Nat) (m : Sre.M) : Bool := match finds k m with
  | some m => (match m.outcome with | some .failed => true | _ => false)
  | none => false
theorem drive_run : ∀ (k turns : Nat) (m m' : Sre.M) (Q : Sre.M → Shared → Prop), k ≤ turns → finds k m = some m' → Q m' s → wpAny M A (reDrive turns m) Q E s
  | 0, _, _, _, _, _, h, _ => by cases h
  | k + 1, 0, _, _, _, hk, _, _ => by omega
  | k + 1, turns + 1, m, m', Q, hk, h, hQ => by
    unfold reDrive
    unfold finds at h
    dsimp only at h ⊢
    by_cases hs : (m.runFor reTurnSteps).outcome.isSome = true
    · rw [if_pos hs] at h ⊢
      cases h
      exact wpAny_pure hQ
    · rw [if_neg hs] at h ⊢
      exact wpAny_bind (wpAny_rule (drive_run k turns _ m' Q (by omega) h hQ))
theorem names_loop (m : Sre.M) : ∀ (l : List Nat) (Q : PUnit → Shared → Prop), Q ⟨⟩ s → wpAny M A (forIn l PUnit.unit fun i r => if m.seen.has i = true then (do rule (Sre.names.getD i ""); pure (ForInStep.yield PUnit.unit)) else (pure (ForInStep.yield PUnit.unit) : Sem (ForInStep PUnit))) Q E s
  | [], Q, h => wpAny_pure h
  | i :: l, Q, h => by
    rw [List.forIn_cons]
    refine wpAny_bind ?_
    by_cases hs : m.seen.has i = true
    · rw [if_pos hs]
      exact wpAny_bind (wpAny_rule (wpAny_pure (names_loop m l Q h)))
    · rw [if_neg hs]
      exact wpAny_pure (names_loop m l Q h)
theorem run_fails {m : Sre.M} {Q : Option Sre.M → Shared → Prop} (h : failsIn 1000 m = true) (hQ : Q none s) : wpAny M A (reRunToEnd m) Q E s := by
  unfold failsIn at h
  cases hf : finds 1000 m with
  | none => rw [hf] at h; cases h
  | some m' =>
    rw [hf] at h
    dsimp only at h
    unfold reRunToEnd
    refine wpAny_bind (drive_run 1000 (2 ^ 64) m m' _ (by decide) hf ?_)
    refine wpAny_bind (names_loop m' _ _ ?_)
    cases ho : m'.outcome with
    | none => rw [ho] at h; cases h
    | some o =>
      rw [ho] at h
      cases o with
      | failed => exact wpAny_pure hQ
      | matched => cases h
      | stuck why => cases h
/-- the code of the twin's pattern -/
noncomputable def reCode : Array Int := #[14, 14, 4, 1, 1, 9, 0, 64, 0, 1342177280, 0, 0, 0, 0, 0, 17, 0, 13, 11, 9, 0, 64, 0, 1342177280, 0, 0, 0, 0, 0, 17, 1, 1]
noncomputable def noHit (x : List Nat) : Bool := failsIn 1000 (Sre.forSearch (reCode.map (·.toNat)) x.toArray 1 0 x.toArray.size false)
example : noHit [63] = true := by decide +kernel
example : noHit [45, 45, 115] = true := by decide +kernel
end
end Mine
namespace Mine
open MineP
open Builtin Builtin.Re
theorem slot_re_sub : PySem.Slot "re.Pattern" "sub" "re.Pattern.sub" :=
  .of (owner := "re.Pattern") (n := "sub") (by rw [typeLookup_type, builtinLookup_eq_fast]; kernel_rfl) (by decide +kernel) (by decide +kernel) (by decide +kernel)
    (by first | exact .inl (by decide +kernel) | exact .inr (by decide +kernel)) (by rw [isSubtype_type]; kernel_rfl)
theorem entry_re_sub : entryFor table "re.Pattern.sub" = some Builtin.«re.Pattern.sub» := entryFor_of_tree (by kernel_rfl)
theorem entry_re_loop : entryFor table "re.Pattern.sub.loop" = some Builtin.«re.Pattern.sub.loop» := entryFor_of_tree (by kernel_rfl)
theorem args_re_sub (a b c : Value) : argsOk "re.Pattern.sub" ⟨[a, b, c], []⟩ := by unfold argsOk; kernel_rfl
theorem lk_fn_call : typeLookup (.type "function") "__call__" = pure (some (.builtin "function.__call__")) := by rw [typeLookup_type, builtinLookup_eq_fast]; kernel_rfl
theorem sub_str_bytearray : isSubtype (.type "str") (.type "bytearray") = pure false := by rw [isSubtype_type]; kernel_rfl
theorem plain_re_loop : plainId "re.Pattern.sub.loop" = true := by decide +kernel
/-- the twin's pattern, as the top laid it -/
noncomputable def ReAt (h : Heap) (p : Addr) : Prop := ∃ (q : Str) (tq t1 t2 t3 : Tok) (c : Addr) (ts : Array Value), h.get? p = some { cls := .type "re.Pattern", data := .fields #[.str q tq, .int 32 t1, .int 1 t2, .none, .none, .ref c, .int 0 t3] } ∧ (∃ o n, h.get? c = some o ∧ o.data = .seq ts n) ∧ ts.map reRawOf = reCode
section
variable {prog : Program} {w : World} {A : Around} {E : Value → Shared → Prop} {s : Shared}
theorem whole_target {p : Addr} {x : Str} {t : Tok} {Q : ReTarget → Shared → Prop} (hp : ReAt s.heap p)
    (hQ : Q { pattern := .ref p, string := .str x t, code := reCode.map (·.toNat), text := x.cps, kind := 0, groups := 1, pos := 0, lim := x.cps.size } s) : wpAny (model prog w) A (reWholeTarget (.ref p) (.str x t)) Q E s := by
  obtain ⟨q, tq, t1, t2, t3, c, ts, hp, ⟨o, n, ho, hd⟩, hc⟩ := hp
  unfold reWholeTarget
  refine wpAny_bind (wpAny_fieldsOf hp rfl ?_)
  refine wpAny_bind (wpAny_of_eq (a := (x.cps, 0)) rfl ?_)
  dsimp only
  rw [if_neg (by simp [reRawNat]), if_neg (by simp [reRawNat])]
  refine wpAny_bind (wpAny_of_eq (a := ()) rfl ?_)
  unfold reRawItems
  refine wpAny_bind (wpAny_bind (wpAny_seqItems ho hd (wpAny_pure ?_)))
  refine wpAny_pure ?_
  have e : ((some ts).getD #[]).map reRawOf = reCode := hc
  rw [e]
  exact hQ
theorem sub_loop {p fq L : Addr} {x : Str} {t : Tok} {R : Result → Shared → Prop} (hp : ReAt s.heap p) (hx : noHit x.cps.toList = true) (h0 : 0 < x.cps.size) (h1 : x.cps.size ≤ 1000) (hl : s.heap.get? L = some { cls := .type "list", data := .seq #[] })
    (hQ : ∀ h' tk t', (∀ b o, b ≠ L → s.heap.get? b = some o → h'.get? b = some o) → R (.ok (.ret (.str x t'))) { s with heap := h', toks := tk }) :
    codeAny (model prog w) A (.builtin "re.Pattern.sub.loop" ⟨[.ref p, .str x t, .ref fq, rawInt 1, rawInt 0, rawInt 0, rawInt 0, rawInt 0, .bool false, .ref L, .bool false], []⟩) R s := by
  refine codeAny_builtin entry_re_loop ?_
  rw [Around.under_plainId plain_re_loop _]
  unfold Builtin.«re.Pattern.sub.loop»
  refine wpAny_bind (whole_target hp ?_)
  dsimp only [rawInt]
  rw [if_neg (by decide), if_neg (by decide)]
  refine wpAny_bind ?_
  unfold reNextFound
  refine run_fails (by have := hx; unfold noHit at this; simpa using this) ?_
  dsimp only
  rw [if_pos (by show 0 < x.cps.size; exact h0)]
  unfold reSlice
  rw [if_pos (by decide)]
  refine wpAny_bind (wpAny_mkStr ?_ (by rw [sizeLine_eq]; show (x.cps.extract _ _).size ≤ _; rw [Array.size_extract]; omega))
  refine wpAny_bind (wpAny_updateSeq hl rfl ?_)
  have ex : (⟨x.cps.extract (Int.toNat 0) x.cps.size⟩ : Str) = x := by
    have : x.cps.extract 0 x.cps.size = x.cps := by simp
    show (⟨x.cps.extract 0 x.cps.size⟩ : Str) = x
    rw [this]
  have eL : (s.heap.update L (Obj.mapSeq fun y => y.push (Value.str ⟨x.cps.extract (Int.toNat 0) x.cps.size⟩ s.toks))).get? L = some { cls := .type "list", data := .seq #[.str x s.toks] 1 } := by
    rw [Heap.get?_update_self _ hl rfl, ex]; rfl
  rw [if_pos (by decide)]
  refine wpAny_bind (wpAny_mkStr ?_ (by rw [sizeLine_eq]; show (x.cps.extract _ _).size ≤ _; rw [Array.size_extract]; omega))
  refine wpAny_bind (wpAny_seqItems eL rfl ?_)
  rw [if_neg (by simp)]
  rw [if_pos (by decide)]
  have e0 : (⟨x.cps.extract 0 0⟩ : Str) = ⟨#[]⟩ := by simp
  refine wpAny_bind (SC.join (l := [(x, s.toks)]) (texts := [x]) ⟨_, eL, rfl, 1, rfl⟩ rfl (joinOk_of (by rw [e0]; show x.cps.size + 0 + 1 * 0 ≤ _; omega)) fun t' k => ?_)
  have ej : Txt.join ⟨x.cps.extract 0 0⟩ [x] = x := (eq_of_beq (join_plain_closes _ [x])).trans rfl
  rw [ej, if_neg (by decide)]
  exact wpAny_pure (hQ _ k t' fun b o n e => by rw [Heap.get?_update_ne _ _ _ _ n]; exact e)
/-- pattern.sub(f, x), nothing found -/
theorem call_sub {p fq : Addr} {x : Str} {t : Tok} {of : Obj} {Q : Value → Shared → Prop} (hp : ReAt s.heap p) (hf : s.heap.get? fq = some of) (hfc : of.cls = .type "function") (hx : noHit x.cps.toList = true) (h0 : 0 < x.cps.size) (h1 : x.cps.size ≤ 1000)
    (hQ : ∀ h' tk t', (∀ b o, s.heap.get? b = some o → h'.get? b = some o) → Q (.str x t') { s with heap := h', toks := tk }) :
    wpAny (model prog w) A (call (.builtin "re.Pattern.sub") [.ref p, .ref fq, .str x t]) Q E s := by
  have hT : s.TypeIs (.ref p) "re.Pattern" := by obtain ⟨q, tq, t1, t2, t3, c, ts, hp, _⟩ := hp; exact ⟨_, hp, rfl⟩
  have hTf : s.TypeIs (.ref fq) "function" := ⟨_, hf, hfc⟩
  refine call_meetsIn (S := fun A' R s' => A' = A ∧ s' = s ∧ ∀ h' tk t', (∀ b o, s.heap.get? b = some o → h'.get? b = some o) → R (.ok (.ret (.str x t'))) { s with heap := h', toks := tk }) slot_re_sub hT entry_re_sub (args_re_sub _ _ _) (fun A' R s' ⟨e1, e2, h⟩ => ?_) ⟨rfl, rfl, fun h' tk t' k => hQ h' tk t' k⟩
  subst e1 e2
  unfold Builtin.«re.Pattern.sub» reSubstitute
  refine wpAny_bind (wpAny_of_eq (a := [some (.ref fq), some (.str x t), none]) (by kernel_rfl) ?_)
  dsimp only
  refine wpAny_bind (wpAny_pure ?_)
  refine wpAny_bind (wpAny_specialOf hTf lk_fn_call ?_)
  rw [if_pos (by decide)]
  refine wpAny_bind (wpAny_pure ?_)
  rw [if_pos (by decide)]
  refine wpAny_bind (wpAny_pure ?_)
  dsimp only
  refine wpAny_bind (wpAny_holding (whole_target hp ?_))
  rw [if_pos (by decide)]
  refine wpAny_bind ?_
  unfold reNotHeld
  refine wpAny_bind (wpAny_isInstance (T := "str") (b := false) (typeIs_str _ _ _) sub_str_bytearray ?_)
  rw [if_neg (by decide)]
  refine wpAny_pure ?_
  refine wpAny_bind (wpAny_newList ?_ (by simp))
  refine wpAny_pure ⟨plainId_quiet plain_re_loop _, ?_⟩
  have up : ∀ b o, s'.heap.get? b = some o → (s'.heap.push { cls := .type "list", data := .seq ([] : List Value).toArray }).get? b = some o := fun b o e => Heap.get?_push_of_some _ e
  have hp' : ReAt (s'.heap.push { cls := .type "list", data := .seq ([] : List Value).toArray }) p := by
    obtain ⟨q, tq, t1, t2, t3, c, ts, hp, ⟨o, n, ho, hd⟩, hc⟩ := hp
    exact ⟨q, tq, t1, t2, t3, c, ts, up _ _ hp, ⟨o, n, up _ _ ho, hd⟩, hc⟩
  exact sub_loop (s := { s' with heap := s'.heap.push { cls := .type "list", data := .seq ([] : List Value).toArray } }) hp' hx h0 h1 (Heap.get?_push_size _ rfl) fun h' tk t' k => h h' tk t' fun b o e => k b o (Nat.ne_of_lt (Heap.lt_size e)) (up b o e)
end
end Mine
namespace Mine
open MineP
section
variable {C : Cx} {σ : Sig} {s s' s'' : Shared} {P : DF → Sig → Prop}
/-- a frame whose code may make functions: its table is the world's -/
structure Maker (X : Wd) (cd : Value) : Prop where
  code : ∃ c, cd = .ref c ∧ CodeHd X.hb c X.T
  built : X.hb.BuiltinsAt X.mg X.T
theorem lam_run {params : Arguments} {body : Expr} {scope : Scope} {pos : Pos} (hX : WOk C.X) (K : Maker C.X C.env.code) (hg : C.env.globals = mainGlobals) (hcl : closureFor scope C.env = pure []) (hdef : defaultsOf params C.env = ([], [])) :
    Run C σ (eval (.Lambda params body scope pos) C.env) fun _ v s' => ∃ q o, v = .ref q ∧ s'.heap.get? q = some o ∧ o.cls = .type "function" := fun A s Q hA O hQ => by
  obtain ⟨c, hc, hd⟩ := K.code
  obtain ⟨ps, hP, ht⟩ := O.bs.tab
  have hgs := hX.g.keeps O.bs.le
  have hds := hd.keeps O.bs.le
  have hbs := K.built.keeps O.bs.le
  have hgP : mainGlobals ≠ C.X.T := fun q => by
    obtain ⟨o, es, ep, e, _⟩ := hX.g
    rw [q, hX.hid] at e; cases e
  refine kla_eval hdef ?_
  cases hf : codeAmong pos ps.toList with
  | some cv =>
    refine kla_makeFunctionHit hcl hg hgs hc hds hP ht hf hbs fun ctv h' tk k _ => ?_
    have k' : ∀ b o, s.heap.get? b = some o → (h'.push { cls := .type "function", data := .func (kla_fn "<lambda>" (C.env.qual ++ "<lambda>") params body scope [] ((C.X.mg "__name__").getD .none) cv ctv) }).get? b = some o := fun b o e => Heap.get?_push_of_some _ (k b o e)
    exact hQ _ _ (Ext.grew (tk := tk) k') (O.grew k') ⟨_, _, rfl, Heap.get?_push_size _ rfl, rfl⟩
  | none =>
    refine kla_makeFunction hcl hg hgs hc hds hP ht hf hgP hbs fun c' ctv h' tk hx hge hlt hrec htab => ?_
    have k' : ∀ b o, b ≠ C.X.T → s.heap.get? b = some o → (h'.push (kla_obj "<lambda>" (C.env.qual ++ "<lambda>") params body scope [] ((C.X.mg "__name__").getD .none) c' ctv)).get? b = some o := fun b o n e => Heap.get?_push_of_some _ (hx b o n e)
    have tab' : (h'.push (kla_obj "<lambda>" (C.env.qual ++ "<lambda>") params body scope [] ((C.X.mg "__name__").getD .none) c' ctv)).get? C.X.T = some (tabObj (ps ++ #[rawInt pos.line, rawInt pos.col, .ref c'])) := Heap.get?_push_of_some _ htab
    have x : Ext [C.X.T] s { s with heap := h'.push (kla_obj "<lambda>" (C.env.qual ++ "<lambda>") params body scope [] ((C.X.mg "__name__").getD .none) c' ctv), toks := tk } := ⟨fun b o n e => k' b o (fun q => n (q ▸ .head _)) e, fun b o e => by
      by_cases q : b = C.X.T
      · subst q; exact ⟨_, tab'⟩
      · exact ⟨o, k' b o q e⟩, rfl⟩
    refine hQ _ _ x (O.extT x ⟨fun b o e => k' b o (fun q => by rw [q, hX.hid] at e; cases e) (O.bs.le b o e), ⟨_, tab', ?_⟩, O.bs.bare⟩) ⟨_, _, rfl, Heap.get?_push_size _ rfl, rfl⟩
    have := TriplesOk_snoc pos.line pos.col (.ref c') ps.toList ht
    simpa using this
/-- pattern.sub(lambda .., x), nothing found -/
theorem EvE.reSub {tw : Expr} {params : Arguments} {body e : Expr} {scope : Scope} {lp apos p : Pos} {a : Addr} {x : Str} (hX : WOk C.X) (K : Maker C.X C.env.code) (hg : C.env.globals = mainGlobals) (hr : ReAt C.X.hb a) (htw : EvV C σ tw (.ref a)) (he : EvE C σ e (.str x)) (hx : noHit x.cps.toList = true) (h0 : 0 < x.cps.size) (h1 : x.cps.size ≤ 1000)
    (hcl : closureFor scope C.env = pure [] := by rfl) (hdef : defaultsOf params C.env = ([], []) := by rfl)
    (hst : starEach [.Lambda params body scope lp, e] C.env = [(false, eval (.Lambda params body scope lp) C.env), (false, eval e C.env)] := by rfl) (hb : attributeBase tw "sub" C.env (eval tw C.env) = eval tw C.env := by rfl) (hl : (apos.endLine == p.line) = true := by rfl)
    (hk : ((((backTo p (starEach [.Lambda params body scope lp, e] C.env)).all fun x => !x.fst) && (backToKw p (keywordEach [] C.env)).all fun x => x.fst.isSome) && decide (([.Lambda params body scope lp, e].length + ([] : List Keyword).length + if ([] : List Keyword).isEmpty = true then 0 else 1) < 30)) = true := by rfl) :
    EvE C σ (.Call (.Attribute tw "sub" apos) [.Lambda params body scope lp, e] [] p) (.str x) := .mk fun A s Q hA O hQ => by
  have hpl : PlainAttrs "re.Pattern" := ⟨⟨"object.__getattribute__", by rw [typeLookup_type, builtinLookup_eq_fast]; kernel_rfl, by decide +kernel⟩, by rw [typeLookup_type, builtinLookup_eq_fast]; kernel_rfl⟩
  have hty : typeOf (.builtin "re.Pattern.sub") = pure (.type "method_descriptor") := by show builtinType _ = _; rw [builtinType_eq_fast]; kernel_rfl
  refine wpAny_Call_method hb hk hl hpl slot_re_sub hty (htw.run A s _ hA O fun ov s1 x1 O1 ev => ?_)
  subst ev
  have up : ∀ {s : Shared}, C.Ok σ s → ReAt s.heap a := fun {s} O => by
    obtain ⟨q, tq, t1, t2, t3, c, ts, hp, ⟨o, n, ho, hd⟩, hc⟩ := hr
    exact ⟨q, tq, t1, t2, t3, c, ts, O.bs.le _ _ hp, ⟨o, n, O.bs.le _ _ ho, hd⟩, hc⟩
  have hT : ∀ {s : Shared}, C.Ok σ s → s.TypeIs (.ref a) "re.Pattern" := fun O => by obtain ⟨q, tq, t1, t2, t3, c, ts, hp, _⟩ := up O; exact ⟨_, hp, rfl⟩
  refine And.intro (hT O1) (And.intro (fun b q => by cases q; obtain ⟨q, tq, t1, t2, t3, c, ts, hp, _⟩ := up O1; exact ⟨_, hp, rfl⟩) ?_)
  refine callWith_of (P := fun _ => True) (by rw [hst]; rfl) (fun h _ => ⟨.machine, .inr (.inl rfl), Looks.of_pure rfl⟩) ?_
  have hbb : backTo p (starEach [.Lambda params body scope lp, e] C.env) = [(false, eval (.Lambda params body scope lp) C.env), (false, eval e C.env)] := by rw [hst]; rfl
  rw [hbb]
  refine evalArgs_plain (spliced_cons (lam_run hX K hg hcl hdef A s1 _ hA O1 fun v s2 x2 O2 ⟨q, of, ev, hq, hqc⟩ => spliced_cons (he.run A s2 _ hA O2 fun w s3 x3 O3 d3 => spliced_nil ⟨trivial, ?_⟩)))
  subst ev
  cases d3 with
  | str _ t =>
  have hq3 : s3.heap.get? q = some of := x3.keep _ _ (fun m => by
    rw [List.mem_singleton.mp m] at hq
    obtain ⟨ps, e, _⟩ := O2.bs.tab
    rw [e] at hq; cases hq; cases hqc) hq
  exact call_sub (up O3) hq3 hqc hx h0 h1 fun h' tk t' k => hQ _ _ (((x1.trans' x2).trans' x3).trans' (Ext.grew k)) (O3.grew k) (.str _ _)
end
end Mine
namespace Mine
open MineP
section
variable {C : Cx} {σ : Sig} {s s' s'' : Shared} {P : DF → Sig → Prop}
/-- a generator that hands out texts -/
noncomputable def GenR (C : Cx) (A : Around) (ys : List Str) (s : Shared) (v : Value) (s' : Shared) : Prop :=
  ∃ a fp wr g St n F, v = .ref a ∧ WalksS C.X.prog C.X.w A.in4 a fp wr (GenOnlyQ g) n F St ∧ St 0 s' ∧ (∀ i s', St i s' → s'.TypeIs (.ref a) "generator") ∧ a ∈ fp ∧ (∀ b ∈ fp, b < s'.heap.objs.size) ∧ (∀ b ∈ wr, s.heap.get? b = none) ∧ n = ys.length ∧ ∀ j y, F j y → ∃ u, y = .str (ys.getD j "") u
theorem genexpr_run {A : Around} {Q : Value → Shared → Prop} {elt iter : Expr} {x : Str} {px pos : Pos} {scope : Scope} {xs : List Str} (f : Str → Str) (hX : WOk C.X) (K : Maker C.X C.env.code) (hg : C.env.globals = mainGlobals) (hi : EvL C σ iter (sL xs))
    (hlim : C.X.hb.NoLimit) (hco : scope.isCoroutine = false) (hclos : closureFor scope C.env = pure []) (hcell : ∀ y ∈ scope.names, y.2 ≠ .cell) (h0 : scope.names.lookup (".0" : Str) = some NameKind.local) (hx : scope.names.lookup x = some .local) (hkind : scope.kind = .function)
    (helt : ∀ (i : Nat) (L' : Addr) (code : Value) (bi : Addr) (A' : Around) (E' : Value → Shared → Prop) (t : Tok) (s₂ : Shared) (m₂ : Str → Option Value), i < xs.length → A'.handled = none → s₂.heap.Ns L' m₂ → m₂ x = some (.str (xs.getD i "") t) →
      wpAny C.X.M A' (eval elt (genEnv scope [] L' code bi C.env)) (fun y s₃ => (∃ u, y = .str (f (xs.getD i "")) u) ∧ Keeps s₂ s₃) E' s₂)
    (hs : ∀ x, genFold iter C.env x = pure x) (hA : AOk C.n A) (O : C.Ok σ s)
    (hQ : ∀ v s', Ext [C.X.T] s s' → C.Ok σ s' → GenR C A (xs.map f) s v s' → Q v s') : wpAny C.X.M A (eval (.GeneratorExp elt [⟨.Name x px, iter, [], 0⟩] scope pos) C.env) Q NE s := by
  refine wpAny_GeneratorExp_walksQD hA.1 hco hclos hcell h0 hx hkind hA.room (hi.run A s _ hA O fun v s1 x1 O1 ⟨l, vs, ev, li, r⟩ => ?_) hs
  subst ev
  refine wpAny_pyIter_list li ⟨(hlim.keeps O1.bs.le).push _, ?_⟩
  let s2 : Shared := { s1 with heap := s1.heap.push { cls := .type "list_iterator", data := .fields #[.ref l, .int 0 0] } }
  have x2 : Ext [C.X.T] s s2 := x1.trans' (Ext.push (t := s1.toks))
  have O2 : C.Ok σ s2 := O1.push (t := s1.toks)
  have len : vs.length = xs.length := by have := r.length; simpa using this
  obtain ⟨lt, e1, e2⟩ := dens_strs r
  -- the code, then the generator
  have fin : ∀ (code : Value) (s3 : Shared), Ext [C.X.T] s2 s3 → Bs C.X s3 → s2.heap.objs.size ≤ s3.heap.objs.size → wpAny C.X.M A (builtinsFor C.env.globals C.env.builtins) (fun bi s₄ =>
        ∃ I fp wr n₀ P St₀ pz F, Value.ref s1.heap.objs.size = .ref I ∧ (∀ A' : Around, A'.handled = none → Walks C.X.prog C.X.w A' I fp wr n₀ P St₀) ∧ St₀ 0 s₄.heap ∧ (∀ b ∈ fp, b < s₄.heap.objs.size) ∧ s₄.heap.NoLimit ∧ cStatics ∉ wr ∧
          (∀ href : Heap, (∀ b o, s₄.heap.get? b = some o → href.get? b = some o) →
            QuietGenD C.X.prog C.X.w (genEnv scope [] s₄.heap.objs.size code bi C.env) x [] elt (List.range s₄.heap.objs.size) wr P pz F href (A.depth + 1) (A.units + 8)) ∧
          (∀ a h₅ tk gs, gs.bare = true → s₄.heap.objs.size < a → h₅.objs.size = a + 1 → (∀ b o, s₄.heap.get? b = some o → h₅.get? b = some o) →
            WalksS C.X.prog C.X.w A.in4 a (a :: s₄.heap.objs.size :: List.range s₄.heap.objs.size) (s₄.heap.objs.size :: wr) (GenOnlyQ s₄.gens.size) (passing pz n₀ 0).length
              (fun j y => ∃ i, (passing pz n₀ 0)[j]? = some i ∧ F i y) (GenAt C.X.prog C.X.w A.in4 a s₄.gens.size s₄.heap.objs.size (List.range s₄.heap.objs.size) wr pz n₀ F) →
            GenAt C.X.prog C.X.w A.in4 a s₄.gens.size s₄.heap.objs.size (List.range s₄.heap.objs.size) wr pz n₀ F 0 { s₄ with gens := s₄.gens.push gs, toks := tk, heap := h₅ } →
            Q (.ref a) { s₄ with gens := s₄.gens.push gs, toks := tk, heap := h₅ })) NE s3 := fun code s3 x3 B3 sz3 => by
    obtain ⟨bm, ob, hbm, hne0, _, hneP, hbo, hcls, hdict, hdata⟩ := K.built
    have hneT : l ≠ C.X.T := fun q => by
      obtain ⟨ps, e, _⟩ := O1.bs.tab
      obtain ⟨o, e', c, _⟩ := li
      rw [q, e] at e'; cases e'; cases c
    have O3 : C.Ok σ s3 := O2.extT x3 B3
    have szl : l < s1.heap.objs.size := by obtain ⟨o, e, _⟩ := li; exact Heap.lt_size e
    have iT : s1.heap.objs.size ≠ C.X.T := fun q => by
      obtain ⟨ps, e, _⟩ := O1.bs.tab
      rw [← q, get_size] at e; cases e
    have sz2 : s2.heap.objs.size = s1.heap.objs.size + 1 := Heap.size_push ..
    have szlt : s1.heap.objs.size < s3.heap.objs.size := Nat.lt_of_lt_of_le (by rw [sz2]; exact Nat.lt_succ_self _) sz3
    rw [hg]
    refine wpAny_builtinsFor (hX.g.keeps B3.le) hbm hne0 (B3.le _ _ hbo) hcls hdict hdata ?_
    have st3 : s3.heap.IsListIter s1.heap.objs.size l 0 ∧ s3.heap.IsList l vs.toArray := by
      refine ⟨⟨_, x3.keep _ _ (fun m => iT (List.mem_singleton.mp m)) (Heap.get?_push_size _ rfl), rfl, rfl⟩, ?_⟩
      obtain ⟨o, e, r⟩ := li
      exact ⟨o, x3.keep _ _ (fun m => hneT (List.mem_singleton.mp m)) (Heap.get?_push_of_some _ e), r⟩
    refine ⟨s1.heap.objs.size, [s1.heap.objs.size, l], [s1.heap.objs.size], vs.toArray.size, _, _, fun _ => true, fun i y => ∃ u, y = .str (f (xs.getD i "")) u, rfl, fun A' hA' => Walks.list hA' _ _ (Nat.ne_of_lt szl) vs.toArray, st3, fun b m => ?_, hlim.keeps B3.le, fun m => ?_, fun href hh => ⟨fun A' E' i v s₂ m₂ hA' _ _ hv hn hm _ => ?_, fun A' E' i v s₂ m₂ hA' _ _ hv _ hn hm _ => ?_⟩, fun a h₅ tk gs hgb hag hsz₅ hk₅ W hat => ?_⟩
    · rcases List.mem_cons.mp m with rfl | m
      · exact szlt
      · rw [List.mem_singleton.mp m]; exact Nat.lt_trans szl szlt
    · have e := List.mem_singleton.mp m
      obtain ⟨mc, hn, _⟩ := hlim
      obtain ⟨o, _, _, e', _⟩ := hn
      have := O1.bs.le _ _ e'
      rw [e, get_size] at this; cases this
    · exact wpAny_pure ⟨rfl, s₂.heap, s₂.toks, rfl, fun _ _ e => e⟩
    · have hv' : vs[i]? = some v := by simpa using hv
      have hlt : i < xs.length := len ▸ (List.getElem?_eq_some_iff.mp hv').1
      obtain ⟨v', e', dv⟩ := r.get (show (sL xs)[i]? = some (.str (xs.getD i "")) by simp [hlt])
      rw [hv'] at e'; cases e'
      cases dv with
      | str _ t => exact helt i _ code builtinsNs A' E' t s₂ m₂ hlt hA' hn hm
    · have k5 : ∀ b o, s3.heap.get? b = some o → h₅.get? b = some o := hk₅
      have x5 : Ext [C.X.T] s3 { s3 with gens := s3.gens.push gs, toks := tk, heap := h₅ } := ⟨fun b o _ e => k5 b o e, fun b o e => ⟨o, k5 b o e⟩, rfl⟩
      have B5 : Bs C.X { s3 with gens := s3.gens.push gs, toks := tk, heap := h₅ } := ⟨fun b o e => k5 b o (B3.le b o e), let ⟨ps, e, r⟩ := B3.tab; ⟨ps, k5 _ _ e, r⟩, B3.bare.push hgb⟩
      have pas : passing (fun _ => true) vs.toArray.size 0 = List.range xs.length := by
        unfold passing
        rw [List.size_toArray, len]
        simp
      refine hQ (.ref a) _ ((x2.trans' x3).trans' x5) (O3.extT x5 B5) ⟨a, _, _, _, _, _, _, rfl, W, hat, fun i s' st => st.1.typeIs, List.mem_cons_self, fun b m => ?_, fun b m => ?_, by rw [pas]; simp, fun j y hj => ?_⟩
      · show b < h₅.objs.size
        rw [hsz₅]
        rcases List.mem_cons.mp m with rfl | m
        · exact Nat.lt_succ_self _
        rcases List.mem_cons.mp m with rfl | m
        · exact Nat.lt_succ_of_lt hag
        · exact Nat.lt_succ_of_lt (Nat.lt_trans (List.mem_range.mp m) hag)
      · rcases List.mem_cons.mp m with rfl | m
        · exact (x2.trans' x3).none get_size
        · rw [List.mem_singleton.mp m]; exact x1.none get_size
      · obtain ⟨i, hi, u, rfl⟩ := hj
        rw [pas] at hi
        have hlt : j < xs.length := by simpa using (List.getElem?_eq_some_iff.mp hi).1
        have : i = j := by simpa [hlt] using hi.symm
        subst this
        exact ⟨u, by simp [hlt]⟩
  obtain ⟨c, hc, hd⟩ := K.code
  obtain ⟨ps, hP, ht⟩ := O2.bs.tab
  have hds := hd.keeps O2.bs.le
  show wpAny C.X.M A (genexprCode C.env pos (C.env.qual ++ "<genexpr>") scope) _ NE s2
  cases hf : codeAmong pos ps.toList with
  | some cv => exact wpAny_genexprCode_hit hc (hds.code hP ht) hf (fin cv s2 (Ext.refl _ _) O2.bs (Nat.le_refl _))
  | none =>
    refine wpAny_genexprCodeX hc (hds.code hP ht) (hds.tab hP) hf fun c' h' tk hx' hge hlt _ _ htab _ => ?_
    have x3 : Ext [C.X.T] s2 { s2 with heap := h', toks := tk } := ⟨fun b o n e => hx' b o (fun q => n (q ▸ .head _)) e, fun b o e => by
      by_cases q : b = C.X.T
      · subst q; exact ⟨_, htab.2⟩
      · exact ⟨o, hx' b o q e⟩, rfl⟩
    refine fin (.ref c') { s2 with heap := h', toks := tk } x3 ⟨fun b o e => hx' b o (fun q => by rw [q, hX.hid] at e; cases e) (O2.bs.le b o e), ⟨_, htab.2, ?_⟩, O2.bs.bare⟩ (Nat.le_trans hge (Nat.le_of_lt hlt))
    have := TriplesOk_snoc pos.line pos.col (.ref c') ps.toList ht
    simpa using this
end
end Mine
namespace Mine
open MineP
section
variable {C : Cx} {σ : Sig} {s s' s'' : Shared} {P : DF → Sig → Prop}
theorem join_gen' {A : Around} {Q : Value → Shared → Prop} {sep : Str} {t : Tok} {ys : List Str} {v : Value} {s₀ : Shared} (O₀ : C.Ok σ s₀) (O : C.Ok σ s) (x0 : Ext [C.X.T] s₀ s) (h : GenR C A ys s₀ v s) (hz : (ys.map (·.length)).sum + ys.length * sep.length ≤ 16777216) (hn : ys.length ≤ 1000)
    (hQ : ∀ v s', Ext [C.X.T] s₀ s' → C.Ok σ s' → Den (C.W σ) s'.heap v (.str (Str.join sep ys)) → Q v s') : wpAny C.X.M A (call (.builtin "str.join") [.str sep t, v]) Q NE s := by
  obtain ⟨a, fp, wr, g, St, n, F, rfl, W, hst, hT, ha, hfp, hwr, rfl, hF⟩ := h
  have W := W.in4_2
  refine SC.joinGen W hT hst hfp ha (fun j v hv => let ⟨u, e⟩ := hF j v hv; ⟨_, u, e⟩) (fun s' lt hm hacc => ?_) (by rw [sizeLine_eq]; omega)
  have hl : lt.map (·.1) = ys := by
    apply List.ext_getElem?
    intro j
    have hsz : lt.length = ys.length := by simpa [strValues] using hacc.1
    by_cases hj : j < ys.length
    · have hj' : j < lt.length := hsz ▸ hj
      obtain ⟨u, hv⟩ := hF j _ (hacc.2 j (.str lt[j].1 lt[j].2) (by simp [strValues, List.getElem?_eq_getElem hj']))
      injection hv with h1 _
      simp [List.getElem?_eq_getElem hj', hj, h1]
    · rw [List.getElem?_eq_none (by simpa [hsz] using Nat.le_of_not_lt hj), List.getElem?_eq_none (by simpa using Nat.le_of_not_lt hj)]
  rw [hl]
  refine ⟨joinOk_of hz, fun t' k => ?_⟩
  have e : Txt.join sep ys = Str.join sep ys := eq_of_beq (join_plain_closes sep ys)
  rw [e]
  have nw : ∀ b o, s₀.heap.get? b = some o → b ∉ wr := fun b o e m => by rw [hwr b m] at e; cases e
  have kp : ∀ b o, s₀.heap.get? b = some o → b ≠ C.X.T → s'.heap.get? b = some o := fun b o e nT => hm.heap b o (nw b o e) (x0.keep b o (fun m => nT (List.mem_singleton.mp m)) e)
  obtain ⟨ps0, e0, _⟩ := O₀.bs.tab
  obtain ⟨ps, eT, ht⟩ := O.bs.tab
  have eT' : s'.heap.get? C.X.T = some (tabObj ps) := hm.heap _ _ (nw _ _ e0) eT
  have x : Ext [C.X.T] s₀ { s' with toks := k } := ⟨fun b o n e => kp b o e (fun q => n (q ▸ .head _)), fun b o e => by
    by_cases q : b = C.X.T
    · subst q; exact ⟨_, eT'⟩
    · exact ⟨o, kp b o e q⟩, by show s'.os = s₀.os; rw [hm.os, x0.os]⟩
  refine hQ _ _ x (O₀.extT x ⟨fun b o e => ?_, ⟨ps, eT', ht⟩, (show AllBare s'.gens from AllBare.movedS O.bs.bare hm)⟩) (.str _ _)
  by_cases q : b = C.X.T
  · subst q
    have := O₀.fresh C.X.T mem_T
    rw [e] at this; cases this
  · exact kp b o (O₀.bs.le b o e) q
/-- sep.join(elt for x in iter) -/
theorem EvE.joinGen {sep : Str} {ks : Nat} {ps apos p px pos : Pos} {elt iter : Expr} {x : Str} {scope : Scope} {xs : List Str} (f : Str → Str) (hX : WOk C.X) (K : Maker C.X C.env.code) (hg : C.env.globals = mainGlobals) (hi : EvL C σ iter (sL xs))
    (hco : scope.isCoroutine = false) (hclos : closureFor scope C.env = pure []) (hcell : ∀ y ∈ scope.names, y.2 ≠ .cell) (h0 : scope.names.lookup (".0" : Str) = some NameKind.local) (hx : scope.names.lookup x = some .local) (hkind : scope.kind = .function)
    (helt : ∀ (i : Nat) (L' : Addr) (code : Value) (bi : Addr) (A' : Around) (E' : Value → Shared → Prop) (t : Tok) (s₂ : Shared) (m₂ : Str → Option Value), i < xs.length → A'.handled = none → s₂.heap.Ns L' m₂ → m₂ x = some (.str (xs.getD i "") t) →
      wpAny C.X.M A' (eval elt (genEnv scope [] L' code bi C.env)) (fun y s₃ => (∃ u, y = .str (f (xs.getD i "")) u) ∧ Keeps s₂ s₃) E' s₂)
    (hz : ((xs.map f).map (·.length)).sum + (xs.map f).length * sep.length ≤ 16777216) (hn : xs.length ≤ 1000) (hs : ∀ x, genFold iter C.env x = pure x := by intro _; rfl)
    (hst : starEach [.GeneratorExp elt [⟨.Name x px, iter, [], 0⟩] scope pos] C.env = [(false, eval (.GeneratorExp elt [⟨.Name x px, iter, [], 0⟩] scope pos) C.env)] := by rfl) (hb : attributeBase (.Constant (.str sep) ks ps) "join" C.env (eval (.Constant (.str sep) ks ps) C.env) = eval (.Constant (.str sep) ks ps) C.env := by rfl) (hl : (apos.endLine == p.line) = true := by rfl)
    (hk : ((((backTo p (starEach [.GeneratorExp elt [⟨.Name x px, iter, [], 0⟩] scope pos] C.env)).all fun x => !x.fst) && (backToKw p (keywordEach [] C.env)).all fun x => x.fst.isSome) && decide (([Expr.GeneratorExp elt [⟨.Name x px, iter, [], 0⟩] scope pos].length + ([] : List Keyword).length + if ([] : List Keyword).isEmpty = true then 0 else 1) < 30)) = true := by rfl) :
    EvE C σ (.Call (.Attribute (.Constant (.str sep) ks ps) "join" apos) [.GeneratorExp elt [⟨.Name x px, iter, [], 0⟩] scope pos] [] p) (.str (Str.join sep (xs.map f))) := .mk fun A s Q hA O hQ =>
  wpAny_Call_method hb hk hl F.plainAttrs_str F.slot_str_join F.type_str_join (wpAny_Constant_str (by
    refine And.intro (typeIs_str _ _ _) (And.intro (fun a e => nomatch e) ?_)
    refine callWith_of (P := fun _ => True) (by rw [hst]; rfl) (fun h _ => ⟨.machine, .inr (.inl rfl), Looks.of_pure rfl⟩) ?_
    have hbb : backTo p (starEach [.GeneratorExp elt [⟨.Name x px, iter, [], 0⟩] scope pos] C.env) = [(false, eval (.GeneratorExp elt [⟨.Name x px, iter, [], 0⟩] scope pos) C.env)] := by rw [hst]; rfl
    rw [hbb]
    have O1 : C.Ok σ { s with toks := s.toks + 1 } := O.toks
    refine evalArgs_plain (spliced_cons (genexpr_run f hX K hg hi hX.lim hco hclos hcell h0 hx hkind helt hs hA O1 fun v s2 x2 O2 g2 => spliced_nil ⟨trivial, ?_⟩))
    exact join_gen' O1 O2 x2 g2 hz (by simpa using hn) fun v s3 x3 O3 r3 => hQ v s3 ((Ext.toks (t := s.toks + 1)).trans' x3) O3 r3))
end
end Mine
namespace MineP
theorem mro_objectM : mroOf (.type "object") = pure [.type "object"] := by rw [mroOf_type]; kernel_rfl
theorem lookup_object_newM : typeLookup (.type "object") "__new__" = pure (some (.builtin "object.__new__")) := by rw [typeLookup_type, builtinLookup_eq_fast]; kernel_rfl
theorem slot_object_initM : Slot "object" "__init__" "object.__init__" :=
  .of (owner := "object") (n := "__init__") (by rw [typeLookup_type, builtinLookup_eq_fast]; kernel_rfl) (by decide +kernel) (by decide +kernel) (by decide +kernel)
    (by first | exact .inl (by decide +kernel) | exact .inr (by decide +kernel)) (by rw [isSubtype_type]; kernel_rfl)
theorem typeCall_object_0 : checkTypeCall "object" ⟨[], []⟩ = pure () := by kernel_rfl
theorem newCall_object_0 : checkBuiltinCall "object.__new__" ⟨[.type "object"], []⟩ = pure () := by kernel_rfl
theorem plain_object_newM : plainId "object.__new__" = true := by decide +kernel
theorem entry_object_initM : entryFor table "object.__init__" = some Builtin.«object.__init__» := entryFor_of_tree (by kernel_rfl)
theorem args_object_initM (a : Value) : argsOk "object.__init__" ⟨[a], []⟩ := by unfold argsOk; kernel_rfl
theorem called_objectM : TypeCalled "object" "object.__new__" "object.__init__" :=
  ⟨by decide +kernel, by decide +kernel, ⟨_, _, mro_objectM⟩, madeBy_type mro_objectM lookup_object_newM (by decide +kernel), by decide +kernel, by rw [isSubtype_type]; kernel_rfl, slot_object_initM⟩
theorem meets_object_newM : Meets (Builtin.«object.__new__» ⟨[.type "object"], []⟩) (fun _ R s => R (.ok (.ret (.ref s.heap.objs.size))) { s with heap := s.heap.push { cls := .type "object", data := .plain } }) :=
  .of_wp fun prog w A R s h => by
    obtain ⟨hp, g, d, tk, os⟩ := s
    have hm := mro_objectM
    have hmade := called_objectM.made
    unfold Builtin.«object.__new__»
    wp_walk
    exact ⟨_, rfl, h⟩
theorem meets_object_initM (a : Value) : Meets (Builtin.«object.__init__» ⟨[a], []⟩) (fun _ R s => R (.ok (.ret .none)) s) :=
  .of_wp fun prog w A R s h => by
    unfold Builtin.«object.__init__»
    wp_walk
    exact ⟨_, rfl, h⟩
section
variable {prog : Program} {w : World} {A : Around} {E : Value → Shared → Prop} {s : Shared}
theorem call_objectM {Q : Value → Shared → Prop} (h : Q (.ref s.heap.objs.size) { s with heap := s.heap.push { cls := .type "object", data := .plain } }) : wpAny (model prog w) A (call (.type "object") []) Q E s := by
  refine callType_meets (Q₁ := fun obj s₁ => obj = .ref s.heap.objs.size ∧ s₁ = { s with heap := s.heap.push { cls := .type "object", data := .plain } }) called_objectM typeCall_object_0 newCall_object_0 F.entry_object_new entry_object_initM meets_object_newM ⟨rfl, rfl⟩ fun obj s₁ e => ?_
  obtain ⟨rfl, rfl⟩ := e
  exact ⟨⟨_, Heap.get?_push_size _ rfl, rfl⟩, args_object_initM _, _, meets_object_initM _, rfl, h⟩
end
end MineP
namespace Mine
open MineP
section
variable {C : Cx} {σ : Sig} {P : DF → Sig → Prop}
/-- x = object() -/
theorem WS.assign_obj (hF : FmOk C.F) {i : Nat} {x y : Str} {b : Bool} {px np p cp : Pos} (e1 : C.F.lay[i]? = some (x, b)) (hf : EvV C σ (.Name y np) (.type "object")) (k : ∀ a, P .next (σ.set i (some (.val (.obj a)))))
    (hsw : swapsWith (.Call (.Name y np) [] [] cp) (some (.Name x px)) p.line C.env = pure false := by rfl) : WS C σ (exec (.Assign [.Name x px] (.Call (.Name y np) [] [] cp) p) C.env) P := .mk fun A s Q hA O hQ => by
  have r : Run C σ (eval (.Call (.Name y np) [] [] cp) C.env) fun _ v s' => ∃ a, v = .ref a ∧ Den (C.W σ) s'.heap v (.obj a) :=
    callV_run hf trivial .nil (fun A s Q vs hA O rs hQ => by
      cases rs
      exact call_objectM (hQ _ _ Ext.push O.push ⟨_, rfl, .obj (O.off get_size) (Heap.get?_push_size _ rfl)⟩)) fun _ _ _ _ _ r => r
  refine wpAny_Assign_Name (r A s _ hA O fun v s1 x1 O1 d1 => ?_) hsw
  obtain ⟨a, ev, d1⟩ := d1
  exact store_val hF (sl := .val (.obj a)) e1 rfl O1 d1 fun s2 O2 x2 => hQ _ _ _ s2 (k a) O2 ((x1.ofT).trans' x2.ofLC) (Sub.of_eq (ownAs_set σ i _ rfl).subset) trivial
end
end Mine
namespace Mine
open MineP
section
variable {C : Cx} {σ : Sig}
/-- two lists added -/
theorem EvN.addL {l r : Expr} {p : Pos} {ds es : List D} (h1 : EvL C σ l ds) (h2 : EvL C σ r es) (hz : ds.length + es.length ≤ sizeLine) : EvN C σ (.BinOp l .Add r p) (ds ++ es) := .mk fun A s Q hA O hQ =>
  wpAny_BinOp (h1.run A s _ hA O fun v1 s1 x1 O1 d1 => h2.run A s1 _ hA O1 fun v2 s2 x2 O2 d2 => by
    obtain ⟨a, vs, rfl, hl, dv⟩ := d1.up O1 x2
    obtain ⟨b, ws, rfl, hb, dw⟩ := d2
    have hlen : vs.length + ws.length ≤ sizeLine := by rw [dv.length, dw.length]; exact hz
    obtain ⟨⟨cls, dd, data, sl⟩, ho, hc, n, hd⟩ := id hl
    obtain ⟨⟨cls2, dd2, data2, sl2⟩, ho2, hc2, n2, hd2⟩ := id hb
    simp only at hc hd hc2 hd2
    subst hc hd hc2 hd2
    have e : vs.toArray ++ ws.toArray = (vs ++ ws).toArray := by simp
    refine concat_meets ⟨_, ho, rfl⟩ ⟨_, ho2, rfl⟩ noFill_list_add seq_list_add PySem.F.slot_list_add PySem.F.entry_list_add (PySem.F.args_list_add_2 _ _) (list_addW a b vs.toArray ws.toArray n n2 dd dd2 sl sl2 (by simpa using hlen)) ⟨ho, ho2, ?_⟩
    rw [e]
    exact hQ _ _ ((x1.trans' x2).trans' Ext.push) O2.push ⟨_, vs ++ ws, rfl, (x1.trans' x2).none get_size, ⟨_, Heap.get?_push_size _ rfl⟩, (dv.append dw).ext (fun _ _ _ e => Heap.get?_push_of_some _ e) fun a m => (List.mem_cons.mp m).elim (fun q => .inr (by rw [q]; exact get_size)) .inl⟩)
end
end Mine
namespace Mine
open MineP
section
variable {C : Cx} {σ : Sig}
noncomputable abbrev inL (ns : List Int) : List D := ns.map .int
theorem dens_intsAre {W : List Addr} {h : Heap} : ∀ {vs : List Value} {xs : List Int}, Dens W h vs (inL xs) → IntsAre vs xs
  | [], [], _ => .nil
  | [], _ :: _, r => nomatch r
  | _ :: _, [], r => nomatch r
  | _ :: _, y :: ys, .cons r rs => by cases r; exact .cons _ _ (dens_intsAre rs)
theorem intsAre_dens {W : List Addr} {h : Heap} : ∀ {vs : List Value} {xs : List Int}, IntsAre vs xs → Dens W h vs (inL xs)
  | _, _, .nil => .nil
  | _, _, .cons n t r => .cons (.int n t) (intsAre_dens r)
/-- sorted(a list of ints): the list that rises -/
theorem OpC.sorted {ns ms : List Int} (h64 : ns.length < 64) (hm : ∀ ns' : List Int, ns'.Perm ns → ns'.Pairwise (· ≤ ·) → ns' = ms) : OpC C σ (.builtin "sorted") [.list (inL ns)] (.list (inL ms)) := fun A s Q vs hA O r hQ => by
  cases r with
  | cons r rs =>
  cases rs
  cases r with
  | @list a vs _ n l d =>
  refine sorted_ints l (dens_intsAre d) (by rw [d.length]; simpa using h64) fun out ns' a1 a2 a3 => ?_
  have e := hm ns' a2 a3
  subst e
  obtain ⟨k, he⟩ := sortedAll_at s.heap vs out
  refine hQ _ _ (Ext.grew fun _ _ => sortedAll_old) (O.grew fun _ _ => sortedAll_old) (.list (O.off (Heap.get?_none_of_le (Nat.le_succ _))) ⟨_, he, rfl, k, by rfl⟩ (intsAre_dens a1))
end
end Mine
namespace Mine
open MineP
section
variable {C : Cx} {σ : Sig}
theorem strs_gt {prog : Program} {w : World} {A : Around} {R : Nat → Value → Prop} (val : Nat → Str) (hval : ∀ i v, R i v → ∃ t, v = .str (val i) t) :
    CmpOf prog w A .Gt R (fun i j => decide ((val j).cps.toList < (val i).cps.toList)) := fun i j vi vj s Q E hi hj h => by
  obtain ⟨t, rfl⟩ := hval i vi hi
  obtain ⟨u, rfl⟩ := hval j vj hj
  exact P.gt_str h
theorem strs_lt {prog : Program} {w : World} {A : Around} {R : Nat → Value → Prop} (val : Nat → Str) (hval : ∀ i v, R i v → ∃ t, v = .str (val i) t) :
    CmpOf prog w A .Lt R (fun i j => decide ((val i).cps.toList < (val j).cps.toList)) := fun i j vi vj s Q E hi hj h => by
  obtain ⟨t, rfl⟩ := hval i vi hi
  obtain ⟨u, rfl⟩ := hval j vj hj
  exact P.lt_str h
noncomputable abbrev gtS (xs : List Str) (i j : Nat) : Bool := decide ((xs.getD j "").cps.toList < (xs.getD i "").cps.toList)
noncomputable abbrev ltS (xs : List Str) (i j : Nat) : Bool := decide ((xs.getD i "").cps.toList < (xs.getD j "").cps.toList)
theorem strs_at {W : List Addr} {h : Heap} : ∀ {vs : List Value} {xs : List Str}, Dens W h vs (sL xs) → ∀ (i : Nat) (v : Value), vs[i]? = some v → ∃ t, v = Value.str (xs.getD i "") t
  | [], [], _ => fun i v e => by cases e
  | [], _ :: _, r => nomatch r
  | _ :: _, [], r => nomatch r
  | _ :: _, y :: ys, .cons r rs => by
    intro i v e
    cases i with
    | zero => cases r; cases e; exact ⟨_, rfl⟩
    | succ i => exact strs_at rs i v (by simpa using e)
theorem OpC.max_strs {xs : List Str} (hne : 0 < xs.length) : OpC C σ (.builtin "max") [.list (sL xs)] (.str (xs.getD (argBest (gtS xs) (xs.length - 1)) "")) := fun A s Q vs hA O r hQ => by
  cases r with
  | cons r rs =>
  cases rs
  cases r with
  | @list a vs _ n l d =>
  have hlen : vs.length = xs.length := by rw [d.length]; simp
  have hlt : a < s.heap.objs.size := by obtain ⟨_, e, _⟩ := l; exact Heap.lt_size e
  refine call_max_walk (wpAny_pyIter_list l ⟨_, _, _, _, _, _, _, rfl, Walks.list (A := A.in1) hA.1 _ a (Nat.ne_of_lt hlt) vs.toArray, ⟨⟨_, Heap.get?_push_size _ rfl, rfl, rfl⟩, l.push _⟩, fun b hb => ?_, by simpa [hlen] using hne, strs_gt (fun i => xs.getD i "") (fun i v e => strs_at d i v (by simpa using e)), fun v h' tk hP hk => ?_⟩)
  · rw [Heap.size_push]
    rcases List.mem_cons.mp hb with rfl | hb
    · exact Nat.lt_succ_self _
    · rcases List.mem_cons.mp hb with rfl | hb
      · exact Nat.lt_succ_of_lt hlt
      · cases hb
  · have hk' : ∀ b o, s.heap.get? b = some o → h'.get? b = some o := fun b o e => hk b o (fun m => Nat.lt_irrefl _ ((List.mem_singleton.mp m) ▸ Heap.lt_size e)) (Heap.get?_push_of_some _ e)
    have hsz : vs.toArray.size = xs.length := by simpa using hlen
    rw [hsz] at hP
    obtain ⟨t, rfl⟩ := strs_at d _ v (by rw [← hP]; exact List.getElem?_toArray.symm)
    exact hQ _ _ (Ext.grew hk') (O.grew hk') (.str _ _)
theorem OpC.min_strs {xs : List Str} (hne : 0 < xs.length) : OpC C σ (.builtin "min") [.list (sL xs)] (.str (xs.getD (argBest (ltS xs) (xs.length - 1)) "")) := fun A s Q vs hA O r hQ => by
  cases r with
  | cons r rs =>
  cases rs
  cases r with
  | @list a vs _ n l d =>
  have hlen : vs.length = xs.length := by rw [d.length]; simp
  have hlt : a < s.heap.objs.size := by obtain ⟨_, e, _⟩ := l; exact Heap.lt_size e
  refine call_min_walk (wpAny_pyIter_list l ⟨_, _, _, _, _, _, _, rfl, Walks.list (A := A.in1) hA.1 _ a (Nat.ne_of_lt hlt) vs.toArray, ⟨⟨_, Heap.get?_push_size _ rfl, rfl, rfl⟩, l.push _⟩, fun b hb => ?_, by simpa [hlen] using hne, strs_lt (fun i => xs.getD i "") (fun i v e => strs_at d i v (by simpa using e)), fun v h' tk hP hk => ?_⟩)
  · rw [Heap.size_push]
    rcases List.mem_cons.mp hb with rfl | hb
    · exact Nat.lt_succ_self _
    · rcases List.mem_cons.mp hb with rfl | hb
      · exact Nat.lt_succ_of_lt hlt
      · cases hb
  · have hk' : ∀ b o, s.heap.get? b = some o → h'.get? b = some o := fun b o e => hk b o (fun m => Nat.lt_irrefl _ ((List.mem_singleton.mp m) ▸ Heap.lt_size e)) (Heap.get?_push_of_some _ e)
    have hsz : vs.toArray.size = xs.length := by simpa using hlen
    rw [hsz] at hP
    obtain ⟨t, rfl⟩ := strs_at d _ v (by rw [← hP]; exact List.getElem?_toArray.symm)
    exact hQ _ _ (Ext.grew hk') (O.grew hk') (.str _ _)
end
end Mine
namespace Mine
open MineP
noncomputable def bodyOf (i : Nat) : List Stmt := match PySem.Challenge.pw_ik0117_01.main.body[i]? with
  | some (.FunctionDef _ _ b _ _ _ _ _ _ _) => b
  | _ => []
noncomputable def scopeOf (i : Nat) : Scope := match PySem.Challenge.pw_ik0117_01.main.body[i]? with
  | some (.FunctionDef _ _ _ _ _ _ sc _ _ _) => sc
  | _ => default
/-- what a body's frame does not fix -/
structure Sg where
  X : Wd
  L : Addr
  cl : List (Str × Addr)
  q : Str
  f : Option Addr
  cd : Value
  Wo : List Addr
  n : Nat
noncomputable abbrev Bd (i : Nat) (lay : List (Str × Bool)) (glob : List Str) (g : Sg) : Cx := ⟨g.X, ⟨newEnv (scopeOf i) g.L mainGlobals g.cl g.q g.f g.cd none builtinsNs, lay, glob⟩, g.Wo, g.n⟩
/-- a def of the program, as the top laid it -/
noncomputable def DefP (X : Wd) (a : Addr) (i : Nat) (ps : List Str) : Prop := ∃ fd, DefAt X a fd (bodyOf i) ps ∧ fd.scope = scopeOf i ∧ fd.globals = mainGlobals ∧ fd.builtins = builtinsNs ∧ fd.closure = []
noncomputable def layCheck (ps : List Str) (lay : List (Str × Bool)) : Bool := ((lay.take ps.length).map (·.1) == ps) && decide ps.Nodup
theorem FnS.body {X : Wd} {n : Nat} {a : Addr} {i : Nat} {ps : List Str} {lay : List (Str × Bool)} {glob : List Str} {ds : List D} {d : D} {k : Nat} (hX : WOk X) (h : DefP X a i ps) (hk : (scopeOf i).kind = .function) (hck : fmCheck (scopeOf i) lay glob = true) (hl : layCheck ps lay = true) (hlen : ds.length = ps.length) (hn : lay.length - ps.length = k)
    (hb : ∀ g : Sg, g.X = X → g.n = n → FmOk (Bd i lay glob g).F → WS (Bd i lay glob g) (sig0 ds k) (execs (bodyOf i) (Bd i lay glob g).env) (fun df _ => df = .ret d)) : FnS X (n + 1) (.ref a) ds d := by
  obtain ⟨fd, hD, e1, e2, e3, e4⟩ := h
  unfold layCheck at hl
  simp only [Bool.and_eq_true, beq_iff_eq, decide_eq_true_eq] at hl
  obtain ⟨hl, hnd⟩ := hl
  have eE : ∀ L, callEnvC fd L a = newEnv (scopeOf i) L mainGlobals (cellsFrom (L + 1) (scopeOf i).names []) (fd.qualname ++ ".<locals>.") (some a) fd.code none builtinsNs := fun L => by
    unfold callEnvC; rw [e1, e2, e3]
  have hF : ∀ L, FmOk ⟨callEnvC fd L a, lay, glob⟩ := fun L => fmOk_cells (by rw [e1]; exact hk) e2 e3 (by rw [e1]; exact hck)
  have hlay : ∀ (j : Nat) x b, lay[j]? = some (x, b) → j < ps.length → ps[j]? = some x := fun j x b e hj => by
    rw [← hl, List.getElem?_map, List.getElem?_take_of_lt hj, e]; rfl
  refine FnS.cells hX hD e4 hF hlay (fun x hx => ?_) hnd hlen fun L Wo => ?_
  · rw [← hl] at hx
    obtain ⟨⟨y, b⟩, hy, rfl⟩ := List.mem_map.mp hx
    exact ⟨b, List.mem_of_mem_take hy⟩
  · subst hn
    have := hb ⟨X, L, cellsFrom (L + 1) (scopeOf i).names [], fd.qualname ++ ".<locals>.", some a, fd.code, Wo, n⟩ rfl rfl (by
      have := hF L
      rw [eE L] at this
      exact this)
    rw [eE L]
    exact this
/-- a def whose code is told -/
noncomputable def DefPC (X : Wd) (a : Addr) (i : Nat) (ps : List Str) (cd : Value) : Prop := ∃ fd, DefAt X a fd (bodyOf i) ps ∧ fd.scope = scopeOf i ∧ fd.globals = mainGlobals ∧ fd.builtins = builtinsNs ∧ fd.closure = [] ∧ fd.code = cd
theorem FnS.bodyC {X : Wd} {n : Nat} {a : Addr} {i : Nat} {ps : List Str} {lay : List (Str × Bool)} {glob : List Str} {ds : List D} {d : D} {k : Nat} (hX : WOk X) {cd : Value} (h : DefPC X a i ps cd) (hk : (scopeOf i).kind = .function) (hck : fmCheck (scopeOf i) lay glob = true) (hl : layCheck ps lay = true) (hlen : ds.length = ps.length) (hn : lay.length - ps.length = k)
    (hb : ∀ g : Sg, g.X = X → g.n = n → g.cd = cd → FmOk (Bd i lay glob g).F → WS (Bd i lay glob g) (sig0 ds k) (execs (bodyOf i) (Bd i lay glob g).env) (fun df _ => df = .ret d)) : FnS X (n + 1) (.ref a) ds d := by
  obtain ⟨fd, hD, e1, e2, e3, e4, e5⟩ := h
  unfold layCheck at hl
  simp only [Bool.and_eq_true, beq_iff_eq, decide_eq_true_eq] at hl
  obtain ⟨hl, hnd⟩ := hl
  have eE : ∀ L, callEnvC fd L a = newEnv (scopeOf i) L mainGlobals (cellsFrom (L + 1) (scopeOf i).names []) (fd.qualname ++ ".<locals>.") (some a) fd.code none builtinsNs := fun L => by
    unfold callEnvC; rw [e1, e2, e3]
  have hF : ∀ L, FmOk ⟨callEnvC fd L a, lay, glob⟩ := fun L => fmOk_cells (by rw [e1]; exact hk) e2 e3 (by rw [e1]; exact hck)
  have hlay : ∀ (j : Nat) x b, lay[j]? = some (x, b) → j < ps.length → ps[j]? = some x := fun j x b e hj => by
    rw [← hl, List.getElem?_map, List.getElem?_take_of_lt hj, e]; rfl
  refine FnS.cells hX hD e4 hF hlay (fun x hx => ?_) hnd hlen fun L Wo => ?_
  · rw [← hl] at hx
    obtain ⟨⟨y, b⟩, hy, rfl⟩ := List.mem_map.mp hx
    exact ⟨b, List.mem_of_mem_take hy⟩
  · subst hn
    have := hb ⟨X, L, cellsFrom (L + 1) (scopeOf i).names [], fd.qualname ++ ".<locals>.", some a, fd.code, Wo, n⟩ rfl rfl e5 (by
      have := hF L
      rw [eE L] at this
      exact this)
    rw [eE L]
    exact this
end Mine
namespace Mine
open MineP
noncomputable def fmT : List (List (Int × Str)) := [[(40960, "l"), (49152, "s"), (32768, "-"), (24576, "b"), (16384, "d"), (8192, "c"), (4096, "p")], [(256, "r")], [(128, "w")], [(2112, "s"), (2048, "S"), (64, "x")], [(32, "r")], [(16, "w")], [(1032, "s"), (1024, "S"), (8, "x")], [(4, "r")], [(2, "w")], [(513, "t"), (512, "T"), (1, "x")]]
noncomputable abbrev fmRow (t : List (Int × Str)) : List D := t.map fun p => .tuple [.int p.1, .str p.2]
noncomputable abbrev fmD (T : List (List (Int × Str))) : D := .tuple (T.map fun t => .tuple (fmRow t))
/-- the letters of the signs -/
noncomputable def lettersL : List Nat := [98, 99, 100, 108, 112, 115, 114, 119, 83, 84, 116, 120]
/-- what the top has laid, as the bodies ask it -/
structure Pg (X : Wd) : Prop where
  x : WOk X
  b_range : X.mg "range" = none ∧ X.mb "range" = some (.type "range")
  b_min : X.mg "min" = none ∧ X.mb "min" = some (.builtin "min")
  b_max : X.mg "max" = none ∧ X.mb "max" = some (.builtin "max")
  b_len : X.mg "len" = none ∧ X.mb "len" = some (.builtin "len")
  b_isi : X.mg "isinstance" = none ∧ X.mb "isinstance" = some (.builtin "isinstance")
  b_sorted : X.mg "sorted" = none ∧ X.mb "sorted" = some (.builtin "sorted")
  b_enum : X.mg "enumerate" = none ∧ X.mb "enumerate" = some (.type "enumerate")
  b_zip : X.mg "zip" = none ∧ X.mb "zip" = some (.type "zip")
  b_object : X.mg "object" = none ∧ X.mb "object" = some (.type "object")
  b_int : X.mg "int" = none ∧ X.mb "int" = some (.type "int")
  b_bool : X.mg "bool" = none ∧ X.mb "bool" = some (.type "bool")
  b_str : X.mg "str" = none ∧ X.mb "str" = some (.type "str")
  f_ifmt : X.mg "S_IFMT" = some (.ref 38) ∧ DefP X 38 2 ["mode"]
  f_filemode : X.mg "filemode" = some (.ref 78) ∧ DefP X 78 23 ["mode"]
  f_translate : X.mg "translate" = some (.ref 90) ∧ DefP X 90 26 ["pat"]
  f_escape : X.mg "escape" = some (.ref 102) ∧ DefP X 102 29 ["pattern"]
  f_tr : X.mg "_translate" = some (.ref 109) ∧ DefP X 109 31 ["pat", "STAR", "QUESTION_MARK"]
  f_join : X.mg "_join_translated_parts" = some (.ref 116) ∧ DefP X 116 32 ["inp", "STAR"]
  f_strcoll : X.mg "_strcoll" = some (.ref 123) ∧ DefP X 123 34 ["a", "b"]
  f_ranks : X.mg "_law_ranks" = some (.ref 130) ∧ DefP X 130 36 ["mode"]
  f_mode : X.mg "_law_mode" = some (.ref 137) ∧ DefP X 137 37 ["ranks"]
  f_pattern : X.mg "_law_pattern" = some (.ref 144) ∧ DefP X 144 38 ["one", "other"]
  f_sign : X.mg "_law_sign" = some (.ref 151) ∧ DefP X 151 39 ["text", "k"]
  f_ranges : X.mg "_law_ranges" = some (.ref 158) ∧ DefP X 158 40 ["text"]
  f_takes : X.mg "_law_takes" = some (.ref 163) ∧ DefP X 163 41 ["ranges", "text"]
  f_between : X.mg "_law_between" = some (.ref 168) ∧ DefP X 168 42 ["one", "ranks", "other"]
  f_ordered : X.mg "_law_ordered" = some (.ref 175) ∧ DefP X 175 43 ["one", "other", "ranks", "others"]
  t_fm : X.mg "_filemode_table" = some (.ref 71) ∧ Den [] X.hb (.ref 71) (fmD fmT)
  t_map : X.mg "_special_chars_map" = some (.ref 92) ∧ ∃ f t, X.hb.MapOf (intKind X.prog X.w) 92 f ∧ f ((45 : Nat) : Int) = some (.str (⟨#[92, 45]⟩ : Str) t) ∧ ∀ c : Nat, c ∈ lettersL → f c = none
  c_tr : DefPC X 109 31 ["pat", "STAR", "QUESTION_MARK"] (.ref 108)
  maker : Maker X (.ref 108)
  t_re : X.mg "_twin_re_1" = some (.ref 83) ∧ ReAt X.hb 83
theorem DefP.calm {X : Wd} {a : Addr} {i : Nat} {ps : List Str} (h : DefP X a i ps) : Calm X (.ref a) := let ⟨_, h, _⟩ := h; h.calm
section
variable {X : Wd}
theorem EvV.bi {C : Cx} {σ : Sig} (hX : WOk C.X) (hF : FmOk C.F) {x : Str} {p : Pos} {v : Value} (h : C.X.mg x = none ∧ C.X.mb x = some v) (e1 : C.F.glob.contains x = true := by rfl) : EvV C σ (.Name x p) v := EvV.built hX hF (List.contains_iff_mem.mp e1) h.1 h.2
/-- a call of a def of the program -/
theorem EvE.def_ {C : Cx} {σ : Sig} (hX : WOk C.X) (hF : FmOk C.F) {x : Str} {np p : Pos} {a : Addr} {i m : Nat} {ps : List Str} {args : List Expr} {ds : List D} {d : D} (h : C.X.mg x = some (.ref a) ∧ DefP C.X a i ps) (hn : m ≤ C.n) (hf : FnS C.X m (.ref a) ds d) (ha : EvEs C σ args ds) (e1 : C.F.glob.contains x = true := by rfl) : EvE C σ (.Call (.Name x np) args [] p) d :=
  EvE.callV (EvV.glob hX hF (List.contains_iff_mem.mp e1) h.1) h.2.calm ha (hf.op hn)

theorem fn_ifmt (hP : Pg X) {n : Nat} (m : Int) : FnS X (n + 1) (.ref 38) [.int m] (.int (Builtin.bitAnd m 61440)) := by
  refine FnS.body (lay := [("mode", false)]) (glob := []) (k := 0) hP.x hP.f_ifmt.2 rfl (by decide +kernel) (by decide +kernel) rfl rfl fun g eX en hF => ?_
  refine WS.cons (WS.ret (EvE.bin (EvE.name hF (i := 0) rfl rfl) EvE.int OpB.and_int) ?_)
  rfl
noncomputable def strcollD (a b : Str) : Int := b2i (decide (b.cps.toList < a.cps.toList)) - b2i (decide (a.cps.toList < b.cps.toList))
theorem fn_strcoll (hP : Pg X) {n : Nat} (a b : Str) : FnS X (n + 1) (.ref 123) [.str a, .str b] (.int (strcollD a b)) := by
  refine FnS.body (lay := [("a", false), ("b", false)]) (glob := []) (k := 0) hP.x hP.f_strcoll.2 rfl (by decide +kernel) (by decide +kernel) rfl rfl fun g eX en hF => ?_
  refine WS.cons (WS.ret (EvE.bin (EvE.cmp (EvE.name hF (i := 0) rfl rfl) (EvE.name hF (i := 1) rfl rfl) OpB.gt_str) (EvE.cmp (EvE.name hF (i := 0) rfl rfl) (EvE.name hF (i := 1) rfl rfl) OpB.lt_str) OpB.sub_bool) ?_)
  rfl
noncomputable def betweenK (xs rs ys : List Int) (k : Nat) : Bool := !(decide ((if ys.getD k 0 < xs.getD k 0 then ys.getD k 0 else xs.getD k 0) ≤ rs.getD k 0) && decide (rs.getD k 0 ≤ (if ys.getD k 0 > xs.getD k 0 then ys.getD k 0 else xs.getD k 0)))
noncomputable def betweenB (xs rs ys : List Int) : Bool := (((List.range 10).filter (betweenK xs rs ys)).map fun (k : Nat) => D.int k).isEmpty
theorem iL_get {ns : List Int} {k : Nat} (h : k < ns.length) : (iL ns)[((k : Nat) : Int).toNat]? = some (.int (ns.getD k 0)) := by
  simp [h]
theorem fn_between (hP : Pg X) {n : Nat} (xs rs ys : List Int) (h1 : xs.length = 10) (h2 : rs.length = 10) (h3 : ys.length = 10) : FnS X (n + 1) (.ref 168) [.list (iL xs), .list (iL rs), .list (iL ys)] (.bool (betweenB xs rs ys)) := by
  refine FnS.body (lay := [("one", true), ("ranks", true), ("other", true)]) (glob := ["range"]) (k := 0) hP.x hP.f_between.2 rfl (by decide +kernel) (by decide +kernel) rfl rfl fun g eX en hF => ?_
  subst eX
  refine WS.cons (WS.ret (EvE.cmp (EvN.e (EvN.compX (N := 10) (f := fun i => .int i) (p := betweenK xs rs ys) (g := fun i => .int i) (frees := ["one", "other", "ranks"]) (globc := ["min", "max"]) hF
    (.cons (i := 0) rfl rfl (.val (.list (iL xs))) (.cons (i := 2) rfl rfl (.val (.list (iL ys))) (.cons (i := 1) rfl rfl (.val (.list (iL rs))) .nil)))
    (ItW.rangeN (EvR.one (EvV.bi hP.x hF hP.b_range) EvE.int) (by decide)) (fun L Dl k hc hk => ?_) (fun L Dl k hc hk _ => EvE.name hc (i := 0) rfl rfl) (by decide))) (EvN.e (EvN.list .nil (by decide))) OpB.eq_nil) rfl)
  have ix : ∀ {C : Cx} {σ : Sig} {y : Str} {py p q : Pos} {j : Nat} {ns : List Int}, FmOk C.F → C.F.lay[0]? = some (("p" : Str), false) → σ[0]? = some (some (.val (.int k))) → ns.length = 10 → C.F.lay[j]? = some (y, true) → σ[j]? = some (some (.val (.list (iL ns)))) → EvE C σ (.Subscript (.Name y py) (.Name "p" p) q) (.int (ns.getD k 0)) := fun hc l0 s0 e h1 h2 =>
      EvE.item_list (EvE.l (EvE.name hc h1 h2)) (EvE.name hc (i := 0) l0 s0) (by omega) (by omega) (iL_get (by omega))
  exact TestsOk.one (EvT.not (EvT.chain2 (EvE.callV (EvV.bi hP.x hc hP.b_min) trivial (.cons (ix hc rfl rfl h1 (j := 1) rfl rfl) (.cons (ix hc rfl rfl h3 (j := 2) rfl rfl) .nil rfl) rfl) OpC.min2) (ix hc rfl rfl h2 (j := 3) rfl rfl) (EvE.callV (EvV.bi hP.x hc hP.b_max) trivial (.cons (ix hc rfl rfl h1 (j := 1) rfl rfl) (.cons (ix hc rfl rfl h3 (j := 2) rfl rfl) .nil rfl) rfl) OpC.max2) OpB.le_int OpB.le_int))
end
end Mine
namespace Mine
open MineP
section
variable {X : Wd}
theorem le_size {n : Nat} (h : Nat.ble n 1000 = true) : n ≤ sizeLine := Nat.le_trans (Nat.le_of_ble_eq_true h) (by rw [sizeLine_eq]; decide)
-- _law_takes
noncomputable abbrev rgL (rs : List (Str × Str)) : List D := rs.map fun r => .tuple [.str r.1, .str r.2]
noncomputable abbrev ch (c : Nat) : Str := ⟨#[c]⟩
noncomputable def takesK (rs : List (Str × Str)) (x : Str) (k : Nat) : Bool := !((!decide ([x.cps.getD k 0] < (rs.getD k default).1.cps.toList)) && !decide ((rs.getD k default).2.cps.toList < [x.cps.getD k 0]))
noncomputable def takesB (rs : List (Str × Str)) (x : Str) : Bool := (((List.range x.length).filter (takesK rs x)).map fun (k : Nat) => D.int k).isEmpty
theorem cps_get {x : Str} {k : Nat} (h : k < x.length) : x.cps[((k : Nat) : Int).toNat]? = some (x.cps.getD k 0) := by
  have : k < x.cps.size := h
  simp [this, Array.getD]
theorem fn_takes (hP : Pg X) {n : Nat} (rs : List (Str × Str)) (x : Str) (h1 : rs.length = x.length) (h2 : x.length ≤ 1000) : FnS X (n + 1) (.ref 163) [.list (rgL rs), .str x] (.bool (takesB rs x)) := by
  refine FnS.body (lay := [("ranges", true), ("text", true)]) (glob := ["len", "range"]) (k := 0) hP.x hP.f_takes.2 rfl (by decide +kernel) (by decide +kernel) rfl rfl fun g eX en hF => ?_
  subst eX
  refine WS.cons (WS.if_f ((EvT.cmp (EvE.callV (EvV.bi hP.x hF hP.b_len) trivial (.cons (EvE.name hF (i := 0) rfl rfl) .nil rfl) (OpC.len_list (by simp; omega))) (EvE.callV (EvV.bi hP.x hF hP.b_len) trivial (.cons (EvE.name hF (i := 1) rfl rfl) .nil rfl) (OpC.len_str (by omega))) OpB.ne_int).to (by simp [h1])) (WS.nil ?_))
  refine WS.cons (WS.ret (EvE.cmp (EvN.e (EvN.compX (N := x.length) (f := fun i => .int i) (p := takesK rs x) (g := fun i => .int i) (frees := ["ranges", "text"]) (globc := []) hF
    (.cons (i := 0) rfl rfl (.val (.list (rgL rs))) (.cons (i := 1) rfl rfl (.val (.str x)) .nil))
    (ItW.rangeN (EvR.one (EvV.bi hP.x hF hP.b_range) (EvE.callV (EvV.bi hP.x hF hP.b_len) trivial (.cons (EvE.name hF (i := 1) rfl rfl) .nil rfl) (OpC.len_str (by omega)))) (by omega)) (fun L Dl k hc hk => ?_) (fun L Dl k hc hk _ => EvE.name hc (i := 0) rfl rfl) h2)) (EvN.e (EvN.list .nil (by decide))) OpB.eq_nil) rfl)
  have hr : (rgL rs)[((k : Nat) : Int).toNat]? = some (.tuple [.str (rs.getD k default).1, .str (rs.getD k default).2]) := by
    have : k < rs.length := by omega
    simp [this]
  exact TestsOk.one (EvT.not (EvT.chain2 (EvE.item_tuple (EvE.item_list (EvE.l (EvE.name hc (i := 1) rfl rfl)) (EvE.name hc (i := 0) rfl rfl) (by omega) (by omega) hr) EvE.int (by decide) (by decide) rfl) (EvE.item_str (EvE.name hc (i := 2) rfl rfl) (EvE.name hc (i := 0) rfl rfl) (by omega) (by omega) (cps_get hk)) (EvE.item_tuple (EvE.item_list (EvE.l (EvE.name hc (i := 1) rfl rfl)) (EvE.name hc (i := 0) rfl rfl) (by omega) (by omega) hr) EvE.int (by decide) (by decide) rfl) OpB.le_str OpB.le_str))
-- _law_ordered

noncomputable def dueI (xs ys : List Int) : Int := if xs = ys then 0 else if gtL xs ys then 1 else -1
theorem fn_ordered (hP : Pg X) {n : Nat} (a b : Str) (xs ys : List Int) (hl : xs.length = ys.length) : FnS X (n + 2) (.ref 175) [.str a, .str b, .list (iL xs), .list (iL ys)] (.bool (strcollD a b == dueI xs ys)) := by
  refine FnS.body (n := n + 1) (lay := [("one", false), ("other", false), ("ranks", false), ("others", false), ("told", false), ("due", false)]) (glob := ["_strcoll", "isinstance", "int", "bool"]) (k := 2) hP.x hP.f_ordered.2 rfl (by decide +kernel) (by decide +kernel) rfl rfl fun g eX en hF => ?_
  subst eX
  refine WS.cons (WS.assign hF (i := 4) rfl (EvE.def_ hP.x hF hP.f_strcoll (m := n + 1) (by show n + 1 ≤ g.n; omega) (fn_strcoll hP a b) (.cons (EvE.name hF (i := 0) rfl rfl) (.cons (EvE.name hF (i := 1) rfl rfl) .nil rfl) rfl)) ?_)
  refine WS.cons (WS.assign hF (i := 5) (d := .int (dueI xs ys)) rfl (EvE.ifexp (EvT.cmp (EvE.name hF (i := 2) rfl rfl) (EvE.name hF (i := 3) rfl rfl) (OpB.eq_ints hl)) (fun h => EvE.int.to ?_) (fun h => EvE.ifexp (EvT.cmp (EvE.name hF (i := 2) rfl rfl) (EvE.name hF (i := 3) rfl rfl) (OpB.gt_ints hl)) (fun h' => EvE.int.to ?_) fun h' => (EvE.neg EvE.int).to ?_)) ?_)
  · unfold dueI; rw [if_pos (by simpa using h)]
  · unfold dueI; rw [if_neg (by simpa using h), if_pos h']
  · unfold dueI; rw [if_neg (by simpa using h), if_neg (by rw [h']; decide)]
  have isi : ∀ {T : Str} {T' : String} {q : Pos} {r : Bool}, True := fun {_ _ _ _} => trivial
  refine WS.cons (WS.ret (EvE.and_t (EvE.callV (EvV.bi hP.x hF hP.b_isi) trivial (.cons (EvE.name hF (i := 4) rfl rfl) (.cons (EvE.typ (EvV.bi hP.x hF hP.b_int)) .nil rfl) rfl) OpC.isi_int)
    (EvE.and_t ((EvE.not (EvE.callV (EvV.bi hP.x hF hP.b_isi) trivial (.cons (EvE.name hF (i := 4) rfl rfl) (.cons (EvE.typ (EvV.bi hP.x hF hP.b_bool)) .nil rfl) rfl) OpC.isi_bool)).to rfl) (EvE.and_1 (EvE.cmp (EvE.name hF (i := 4) rfl rfl) (EvE.name hF (i := 5) rfl rfl) OpB.eq_int)))) rfl)
-- _law_sign
theorem fn_sign1 (hP : Pg X) {n : Nat} (x : Str) (k c : Nat) (hc : x.cps[k]? = some c) (hn : c ≠ 92) (hx : x.length ≤ 1000) : FnS X (n + 1) (.ref 151) [.str x, .int k] (.tuple [.str (ch c), .int ((k + 1 : Nat) : Int)]) := by
  refine FnS.body (lay := [("text", false), ("k", false)]) (glob := []) (k := 0) hP.x hP.f_sign.2 rfl (by decide +kernel) (by decide +kernel) rfl rfl fun g eX en hF => ?_
  have hk : k < x.length := (Array.getElem?_eq_some_iff.mp hc).1
  refine WS.cons (WS.if_f ((EvT.cmp (EvE.item_str (EvE.name hF (i := 0) rfl rfl) (EvE.name hF (i := 1) rfl rfl) (by omega) (by omega) (c := c) (by simpa using hc)) EvE.str OpB.eq_str).to ?_) (WS.nil ?_))
  · show ([c] == [92]) = false
    simp [hn]
  refine WS.cons (WS.ret (EvE.tuple (.cons (EvE.item_str (EvE.name hF (i := 0) rfl rfl) (EvE.name hF (i := 1) rfl rfl) (by omega) (by omega) (c := c) (by simpa using hc)) (.cons (EvE.bin (EvE.name hF (i := 1) rfl rfl) EvE.int (OpB.add_nat (b := 1))) .nil rfl) rfl) (le_size rfl)) rfl)
theorem fn_sign2 (hP : Pg X) {n : Nat} (x : Str) (k c : Nat) (hc : x.cps[k]? = some 92) (hc2 : x.cps[k + 1]? = some c) (hx : x.length ≤ 1000) : FnS X (n + 1) (.ref 151) [.str x, .int k] (.tuple [.str (ch c), .int ((k + 2 : Nat) : Int)]) := by
  refine FnS.body (lay := [("text", false), ("k", false)]) (glob := []) (k := 0) hP.x hP.f_sign.2 rfl (by decide +kernel) (by decide +kernel) rfl rfl fun g eX en hF => ?_
  have hk : k < x.length := (Array.getElem?_eq_some_iff.mp hc).1
  refine WS.cons (WS.if_t ((EvT.cmp (EvE.item_str (EvE.name hF (i := 0) rfl rfl) (EvE.name hF (i := 1) rfl rfl) (by omega) (by omega) (c := 92) (by simpa using hc)) EvE.str OpB.eq_str).to ?_) ?_)
  · rfl
  refine WS.cons (WS.ret (EvE.tuple (.cons (EvE.item_str (i := ((k + 1 : Nat) : Int)) (EvE.name hF (i := 0) rfl rfl) (EvE.bin (EvE.name hF (i := 1) rfl rfl) EvE.int (OpB.add_nat (b := 1))) (by omega) (by omega) (c := c) (by simpa using hc2)) (.cons (EvE.bin (EvE.name hF (i := 1) rfl rfl) EvE.int (OpB.add_nat (b := 2))) .nil rfl) rfl) (le_size rfl)) rfl)
end
end Mine
namespace Mine
open MineP
section
variable {X : Wd}
noncomputable def constInts : List Expr → Option (List Int)
  | [] => some []
  | .Constant (.int i) _ _ :: es => (constInts es).map (i :: ·)
  | _ => none
theorem EvEs.consts {C : Cx} {σ : Sig} : ∀ {es : List Expr} {ns : List Int}, constInts es = some ns → EvEs C σ es (iL ns)
  | [], ns, h => by cases h; exact .nil
  | e :: es, ns, h => by
    unfold constInts at h
    split at h
    · rename_i q; cases q
    · rename_i i k p es' q
      cases q
      cases hq : constInts es with
      | none => rw [hq] at h; cases h
      | some ms => rw [hq] at h; cases h; exact .cons EvE.int (EvEs.consts hq) rfl
    · cases h
noncomputable def kindL : List Int := [1, 6, 3, 1, 4, 1, 2, 1, 0, 1, 5, 1, 7, 1, 1, 1]
noncomputable def runL : List Int := [0, 3, 1, 2]
noncomputable def figN (m c : Nat) : Nat := m / 8 ^ c % 8
noncomputable def aboveN (m c : Nat) : Nat := m / 2 ^ (9 + c) % 2
noncomputable def grp (m c : Nat) : List Int := [((figN m c / 4 : Nat) : Int), ((figN m c / 2 % 2 : Nat) : Int), runL.getD (figN m c % 2 + 2 * aboveN m c) 0]
noncomputable def ranksI (m : Nat) : List Int := kindL.getD (m / 4096) 0 :: (grp m 2 ++ grp m 1 ++ grp m 0)
noncomputable abbrev sigR (m : Nat) (a : Addr) (ds : List Int) (o1 o2 o3 : Option Slot) : Sig := [some (.val (.int m)), some (.own a (iL ds)), o1, o2, o3]
noncomputable abbrev layR : List (Str × Bool) := [("mode", false), ("ranks", false), ("c", false), ("figure", false), ("above", false)]
noncomputable def forParts (i j : Nat) : Option (Expr × Expr × List Stmt × List Stmt) := match (bodyOf i)[j]? with
  | some (.For t it b o _) => some (t, it, b, o)
  | _ => none
noncomputable def forBody (i j : Nat) : List Stmt := match forParts i j with
  | some (_, _, b, _) => b
  | none => []
theorem step_ranks {g : Sg} (hF : FmOk (Bd 36 layR [] g).F) (m c : Nat) (a : Addr) (ds : List Int) (o2 o3 : Option Slot) (hc : c < 3) (hl : ds.length < 20) :
    WS (Bd 36 layR [] g) (sigR m a ds (some (.val (.int c))) o2 o3) (execs (forBody 36 1) (Bd 36 layR [] g).env) (fun df σ' => df = .next ∧ σ' = sigR m a (ds ++ grp m c) (some (.val (.int c))) (some (.val (.int (figN m c)))) (some (.val (.int (aboveN m c))))) := by
  have b8 : Builtin.Int.intBits ((8 : Nat) : Int) = 4 := by decide
  have b2 : Builtin.Int.intBits ((2 : Nat) : Int) = 2 := by decide
  have pw : ∀ {b : Nat} {e : Expr} {s₁ : Sig} {k : Nat} {p q : Pos} {x : Nat}, b = 8 ∨ b = 2 → x ≤ 20 → EvE (Bd 36 layR [] g) s₁ e (.int x) → EvE (Bd 36 layR [] g) s₁ (.BinOp (.Constant (.int b) k p) .Pow e q) (.int ((b ^ x : Nat) : Int)) := fun hb hx h =>
    (EvE.bin EvE.int h (OpB.pow_int (by omega) (by rcases hb with rfl | rfl <;> simp only [b8, b2] <;> omega))).to (by simp)
  have p8 : 8 ^ c < 1073741824 := by
    have : c = 0 ∨ c = 1 ∨ c = 2 := by omega
    rcases this with rfl | rfl | rfl <;> decide
  have p2 : 2 ^ (9 + c) < 1073741824 := by
    have : c = 0 ∨ c = 1 ∨ c = 2 := by omega
    rcases this with rfl | rfl | rfl <;> decide
  refine WS.cons (WS.unpackS hF (names := ["figure", "above"]) (is := [4, 3]) rfl (EvU.tuple (EvE.tuple (.cons (EvE.bin (EvE.bin (EvE.name hF (i := 0) rfl rfl) (pw (b := 8) (.inl rfl) (by omega) (EvE.name hF (i := 2) rfl rfl)) (OpB.div_nat (by simp) p8)) EvE.int (OpB.mod_nat (b := 8) (by decide)))
    (.cons (EvE.bin (EvE.bin (EvE.name hF (i := 0) rfl rfl) (pw (b := 2) (.inr rfl) (by omega) (EvE.bin EvE.int (EvE.name hF (i := 2) rfl rfl) (OpB.add_nat (a := 9)))) (OpB.div_nat (by simp) p2)) EvE.int (OpB.mod_nat (b := 2) (by decide))) .nil rfl) rfl) (le_size rfl))) (.bindN rfl (.bindN rfl .nil)) rfl rfl ?_)
  have hrun : figN m c % 2 + 2 * aboveN m c < 4 := by unfold figN aboveN; omega
  refine WS.cons (WS.extend hF (i := 1) rfl rfl (noRo_of rfl) (EvN.list (ds := iL (grp m c)) (.cons (EvE.bin (EvE.name hF (i := 3) rfl rfl) EvE.int (OpB.div_nat (b := 4) (by decide) (by decide))) (.cons (EvE.bin (EvE.bin (EvE.name hF (i := 3) rfl rfl) EvE.int (OpB.div_nat (b := 2) (by decide) (by decide))) EvE.int (OpB.mod_nat (b := 2) (by decide)))
    (.cons (EvE.item_tuple (ds := iL runL) (EvE.tuple (.cons EvE.int (.cons EvE.int (.cons EvE.int (.cons EvE.int .nil rfl) rfl) rfl) rfl) (le_size rfl)) (EvE.bin (EvE.bin (EvE.name hF (i := 3) rfl rfl) EvE.int (OpB.mod_nat (b := 2) (by decide))) (EvE.bin EvE.int (EvE.name hF (i := 4) rfl rfl) (OpB.mul_nat (a := 2) (IntMulOk.of_left (by decide)))) OpB.add_nat) (by omega) (by show ((figN m c % 2 + 2 * aboveN m c : Nat) : Int) < _; omega) (iL_get hrun)) .nil rfl) rfl) rfl) (le_size rfl)) (by simp [grp]; omega) ?_)
  refine WS.nil ⟨rfl, ?_⟩
  rw [show iL ds ++ iL (grp m c) = iL (ds ++ grp m c) from (List.map_append ..).symm]
  rfl
noncomputable def gsL (m i : Nat) : List Int := (List.range i).flatMap fun j => grp m (2 - j)
theorem gsL_succ (m i : Nat) : gsL m (i + 1) = gsL m i ++ grp m (2 - i) := by
  unfold gsL; rw [List.range_succ, List.flatMap_append]; simp
theorem gsL_len (m : Nat) : ∀ i, (gsL m i).length = 3 * i
  | 0 => rfl
  | i + 1 => by rw [gsL_succ, List.length_append, gsL_len m i]; rfl
theorem fn_ranks (hP : Pg X) {n : Nat} (m : Nat) (hm : m < 65536) : FnS X (n + 1) (.ref 130) [.int m] (.list (iL (ranksI m))) := by
  refine FnS.body (lay := layR) (glob := []) (k := 4) hP.x hP.f_ranks.2 rfl (by decide +kernel) (by decide +kernel) rfl rfl fun g eX en hF => ?_
  have hk : m / 4096 < kindL.length := by show _ < 16; omega
  refine WS.cons (WS.assign_own hF (i := 1) rfl (EvN.list (ds := iL [kindL.getD (m / 4096) 0]) (.cons (EvE.item_tuple (ds := iL kindL) (EvE.tuple (EvEs.consts rfl) (le_size rfl)) (EvE.bin (EvE.name hF (i := 0) rfl rfl) EvE.int (OpB.div_nat (b := 4096) (by decide) (by decide))) (by omega) (by omega) (iL_get hk)) .nil rfl) (le_size rfl)) fun a => ?_)
  have it : ItW (Bd 36 layR [] g) (sigR m a [kindL.getD (m / 4096) 0] none none none) (match forParts 36 1 with | some (_, it, _, _) => it | none => .Constant .none 0 default) 3 (fun i => ((iL [2, 1, 0])[i]?).getD .none) := ItW.tuple (EvE.tuple (.cons EvE.int (.cons EvE.int (.cons EvE.int .nil rfl) rfl) rfl) (le_size rfl))
  refine WS.cons (WS.for_ (fun i σ' => ∃ o1 o2 o3, σ' = sigR m a (kindL.getD (m / 4096) 0 :: gsL m i) o1 o2 o3) (EvIt.walk it (fun i hi => Asg.name hF (i := 2) rfl) fun i σ' => setTo_own _ _ _) ⟨none, none, none, rfl⟩ (fun i σ' hi hI => ?_) fun σ' hI => ?_)
  · obtain ⟨o1, o2, o3, rfl⟩ := hI
    have hl : (kindL.getD (m / 4096) 0 :: gsL m i).length < 20 := by rw [List.length_cons, gsL_len]; omega
    have ef : ((iL [2, 1, 0])[i]?).getD .none = .int ((2 - i : Nat) : Int) := by
      have : i = 0 ∨ i = 1 ∨ i = 2 := by omega
      rcases this with rfl | rfl | rfl <;> rfl
    rw [ef]
    exact WS.mono (step_ranks hF m (2 - i) a _ o2 o3 (by omega) hl) fun df σ'' ⟨h1, h2⟩ => by subst h1 h2; exact ⟨_, _, _, by rw [gsL_succ, List.cons_append]⟩
  · obtain ⟨o1, o2, o3, rfl⟩ := hI
    refine WS.nil ?_
    exact WS.cons (WS.freeze (i := 1) rfl (WS.ret (EvE.name hF (i := 1) rfl rfl) rfl))
end
end Mine
namespace Mine
open MineP
section
variable {X : Wd}
noncomputable def kindM : List Int := [8, 0, 6, 2, 4, 10, 1, 12]
noncomputable def partN (r : Nat → Nat) (c : Nat) : Nat := (4 * r (7 - 3 * c) + 2 * r (8 - 3 * c) + r (9 - 3 * c) / 2) * 8 ^ c + (r (9 - 3 * c) + 1) / 2 % 2 * 2 ^ (9 + c)
noncomputable abbrev rL (r : Nat → Nat) : List Int := (List.range 10).map fun i => (r i : Int)
noncomputable abbrev layM : List (Str × Bool) := [("ranks", false), ("mode", false), ("c", false), ("r", false), ("w", false), ("run", false)]
noncomputable abbrev sigM (r : Nat → Nat) (m : Int) (o1 o2 o3 o4 : Option Slot) : Sig := [some (.val (.list (iL (rL r)))), some (.val (.int m)), o1, o2, o3, o4]
theorem pow_nat {C : Cx} {σ : Sig} {b : Nat} {e : Expr} {k : Nat} {p q : Pos} {x : Nat} (hb : b = 8 ∨ b = 2) (hx : x ≤ 20) (h : EvE C σ e (.int x)) : EvE C σ (.BinOp (.Constant (.int b) k p) .Pow e q) (.int ((b ^ x : Nat) : Int)) := by
  have b8 : Builtin.Int.intBits ((8 : Nat) : Int) = 4 := by decide
  have b2 : Builtin.Int.intBits ((2 : Nat) : Int) = 2 := by decide
  exact (EvE.bin EvE.int h (OpB.pow_int (by omega) (by rcases hb with rfl | rfl <;> simp only [b8, b2] <;> omega))).to (by simp)
theorem step_mode {g : Sg} (hF : FmOk (Bd 37 layM [] g).F) (r : Nat → Nat) (m c : Nat) (o2 o3 o4 : Option Slot) (hc : c < 3) :
    WS (Bd 37 layM [] g) (sigM r m (some (.val (.int c))) o2 o3 o4) (execs (forBody 37 1) (Bd 37 layM [] g).env) (fun df σ' => df = .next ∧ σ' = sigM r ((m + partN r c : Nat) : Int) (some (.val (.int c))) (some (.val (.int (r (7 - 3 * c))))) (some (.val (.int (r (8 - 3 * c))))) (some (.val (.int (r (9 - 3 * c)))))) := by
  have b8 : Builtin.Int.intBits ((8 ^ c : Nat) : Int) ≤ 64 := by
    have : c = 0 ∨ c = 1 ∨ c = 2 := by omega
    rcases this with rfl | rfl | rfl <;> decide
  have b2 : Builtin.Int.intBits ((2 ^ (9 + c) : Nat) : Int) ≤ 64 := by
    have : c = 0 ∨ c = 1 ∨ c = 2 := by omega
    rcases this with rfl | rfl | rfl <;> decide
  have lim : ∀ {a : Nat} {e : Expr} {k : Nat} {p q : Pos}, 7 ≤ a → EvE (Bd 37 layM [] g) (sigM r m (some (.val (.int c))) o2 o3 o4) e (.int ((3 * c : Nat) : Int)) → EvE (Bd 37 layM [] g) (sigM r m (some (.val (.int c))) o2 o3 o4) (.BinOp (.Constant (.int a) k p) .Sub e q) (.int ((a - 3 * c : Nat) : Int)) := fun ha h =>
    (EvE.bin EvE.int h OpB.sub_int).to (by congr 1; omega)
  have t3 : ∀ {k : Nat} {p q z : Pos}, EvE (Bd 37 layM [] g) (sigM r m (some (.val (.int c))) o2 o3 o4) (.BinOp (.Constant (.int 3) k p) .Mult (.Name "c" q) z) (.int ((3 * c : Nat) : Int)) := EvE.bin EvE.int (EvE.name hF (i := 2) rfl rfl) (OpB.mul_nat (a := 3) (IntMulOk.of_left (by decide)))
  have e3 : cutL (iL (rL r)) (some ((7 - 3 * c : Nat) : Int)) (some ((10 - 3 * c : Nat) : Int)) = [.int (r (7 - 3 * c)), .int (r (8 - 3 * c)), .int (r (9 - 3 * c))] := by
    have : c = 0 ∨ c = 1 ∨ c = 2 := by omega
    rcases this with rfl | rfl | rfl <;> rfl
  refine WS.cons (WS.unpack hF (is := [3, 4, 5]) (ds := [.int (r (7 - 3 * c)), .int (r (8 - 3 * c)), .int (r (9 - 3 * c))]) (EvU.list (EvN.l ((EvN.slice (EvE.l (EvE.name hF (i := 0) rfl rfl)) (.some (lim (a := 7) (by decide) t3)) (.some (lim (a := 10) (by decide) t3)) (le_size rfl)).to e3))) (.name rfl (.name rfl (.name rfl .nil))) rfl ?_)
  refine WS.cons (WS.aug hF (i := 1) rfl rfl (EvE.bin (EvE.bin (EvE.bin (EvE.bin (EvE.bin EvE.int (EvE.name hF (i := 3) rfl rfl) (OpB.mul_nat (a := 4) (IntMulOk.of_left (by decide)))) (EvE.bin EvE.int (EvE.name hF (i := 4) rfl rfl) (OpB.mul_nat (a := 2) (IntMulOk.of_left (by decide)))) OpB.add_nat) (EvE.bin (EvE.name hF (i := 5) rfl rfl) EvE.int (OpB.div_nat (b := 2) (by decide) (by decide))) OpB.add_nat) (pow_nat (b := 8) (.inl rfl) (by omega) (EvE.name hF (i := 2) rfl rfl)) (OpB.mul_nat (IntMulOk.of_right b8)))
    (EvE.bin (EvE.bin (EvE.bin (EvE.bin (EvE.name hF (i := 5) rfl rfl) EvE.int (OpB.add_nat (b := 1))) EvE.int (OpB.div_nat (b := 2) (by decide) (by decide))) EvE.int (OpB.mod_nat (b := 2) (by decide))) (pow_nat (b := 2) (.inr rfl) (by omega) (EvE.bin EvE.int (EvE.name hF (i := 2) rfl rfl) (OpB.add_nat (a := 9)))) (OpB.mul_nat (IntMulOk.of_right b2))) OpB.add_nat) OpB.iadd_int ?_)
  exact WS.nil ⟨rfl, rfl⟩
noncomputable def accM (r : Nat → Nat) (m0 : Nat) : Nat → Nat
  | 0 => m0
  | i + 1 => accM r m0 i + partN r (2 - i)
noncomputable def modeI (r : Nat → Nat) : Int := ((accM r ((kindM.getD (r 0) 0).toNat * 4096) 3 : Nat) : Int)
theorem fn_mode (hP : Pg X) {n : Nat} (r : Nat → Nat) (hr : r 0 < 8) : FnS X (n + 1) (.ref 137) [.list (iL (rL r))] (.int (modeI r)) := by
  refine FnS.body (lay := layM) (glob := []) (k := 5) hP.x hP.f_mode.2 rfl (by decide +kernel) (by decide +kernel) rfl rfl fun g eX en hF => ?_
  obtain ⟨m0, hm0⟩ : ∃ m0 : Nat, m0 = (kindM.getD (r 0) 0).toNat * 4096 := ⟨_, rfl⟩
  have hk : kindM.getD (r 0) 0 * 4096 = ((m0 : Nat) : Int) := by
    have : r 0 = 0 ∨ r 0 = 1 ∨ r 0 = 2 ∨ r 0 = 3 ∨ r 0 = 4 ∨ r 0 = 5 ∨ r 0 = 6 ∨ r 0 = 7 := by omega
    rw [hm0]
    rcases this with h | h | h | h | h | h | h | h <;> rw [h] <;> decide
  have hl : r 0 < kindM.length := hr
  refine WS.cons (WS.assign hF (i := 1) (d := .int m0) rfl ((EvE.bin (EvE.item_tuple (ds := iL kindM) (EvE.tuple (EvEs.consts rfl) (le_size rfl)) (EvE.item_list (i := 0) (EvE.l (EvE.name hF (i := 0) rfl rfl)) EvE.int (by decide) (by decide) (d := .int (r 0)) rfl) (by omega) (by omega) (iL_get hl)) EvE.int (OpB.mul_int (IntMulOk.of_right (by decide)))).to (by rw [hk])) ?_)
  have it : ItW (Bd 37 layM [] g) (sigM r m0 none none none none) (match forParts 37 1 with | some (_, it, _, _) => it | none => .Constant .none 0 default) 3 (fun i => ((iL [2, 1, 0])[i]?).getD .none) := ItW.tuple (EvE.tuple (EvEs.consts (ns := [2, 1, 0]) rfl) (le_size rfl))
  refine WS.cons (WS.for_ (fun i σ' => ∃ o1 o2 o3 o4, σ' = sigM r ((accM r m0 i : Nat) : Int) o1 o2 o3 o4) (EvIt.walk it (fun i hi => Asg.name hF (i := 2) rfl) fun i σ' => setTo_own _ _ _) ⟨none, none, none, none, rfl⟩ (fun i σ' hi hI => ?_) fun σ' hI => ?_)
  · obtain ⟨o1, o2, o3, o4, rfl⟩ := hI
    have ef : ((iL [2, 1, 0])[i]?).getD .none = .int ((2 - i : Nat) : Int) := by
      have : i = 0 ∨ i = 1 ∨ i = 2 := by omega
      rcases this with rfl | rfl | rfl <;> rfl
    rw [ef]
    exact WS.mono (step_mode hF r (accM r m0 i) (2 - i) o2 o3 o4 (by omega)) fun df σ'' ⟨h1, h2⟩ => by subst h1 h2; exact ⟨_, _, _, _, rfl⟩
  · obtain ⟨o1, o2, o3, o4, rfl⟩ := hI
    refine WS.nil ?_
    exact WS.cons (WS.ret (EvE.name hF (i := 1) rfl rfl) (by unfold modeI; rw [← hm0]; rfl))
end
end Mine
namespace Mine
open MineP
section
variable {X : Wd}
noncomputable def testF (m : Int) (i : Nat) (p : Int × Str) : Bool := if i = 0 then Builtin.bitAnd m 61440 == p.1 else Builtin.bitAnd m p.1 == p.1
noncomputable def signF (m : Int) (i : Nat) : Str := match (fmT.getD i []).find? (testF m i) with
  | some p => p.2
  | none => if i = 0 then "?" else "-"
noncomputable def signsF (m : Int) (k : Nat) : List Str := (List.range k).map (signF m)
noncomputable abbrev layF : List (Str × Bool) := [("mode", false), ("perm", false), ("index", false), ("table", false), ("bit", false), ("char", false)]
noncomputable abbrev ov (d : Option D) : Option Slot := d.map .val
noncomputable abbrev sigF (m : Int) (a : Addr) (xs : List Str) (o2 o3 o4 o5 : Option D) : Sig := [some (.val (.int m)), some (.own a (sL xs)), ov o2, ov o3, ov o4, ov o5]
theorem sL_snoc (xs : List Str) (c : Str) : sL xs ++ [.str c] = sL (xs ++ [c]) := by simp
theorem noRo_F {m : Int} {a : Addr} {xs : List Str} {o2 o3 o4 o5 : Option D} : NoRo (sigF m a xs o2 o3 o4 o5) := noRo_of (by cases o2 <;> cases o3 <;> cases o4 <;> cases o5 <;> rfl)
noncomputable abbrev globF : List Str := ["enumerate", "_filemode_table", "S_IFMT"]
noncomputable def innerFor (i j k : Nat) : List Stmt := match (forBody i j)[k]? with
  | some (.For _ _ b _ _) => b
  | _ => []
noncomputable def innerElse (i j k : Nat) : List Stmt := match (forBody i j)[k]? with
  | some (.For _ _ _ b _) => b
  | _ => []
/-- one turn of the inner loop -/
theorem turn_fm {g : Sg} (hP : Pg g.X) (hn : 1 ≤ g.n) (hF : FmOk (Bd 23 layF globF g).F) (m : Int) (a : Addr) (xs : List Str) (i : Nat) (b : Int) (c : Str) (o3 : Option D) (hx : xs.length ≤ 100) :
    WS (Bd 23 layF globF g) (sigF m a xs (some (.int i)) o3 (some (.int b)) (some (.str c))) (execs (innerFor 23 1 0) (Bd 23 layF globF g).env)
      (fun df σ' => if testF m i (b, c) = true then df = .brk ∧ σ' = sigF m a (xs ++ [c]) (some (.int i)) o3 (some (.int b)) (some (.str c)) else df = .next ∧ σ' = sigF m a xs (some (.int i)) o3 (some (.int b)) (some (.str c))) := by
  have e0 : ((i : Int) == 0) = decide (i = 0) := by rw [Bool.eq_iff_iff]; simp
  refine WS.cons (WS.if_ (EvT.cmp (EvE.name hF (i := 2) rfl rfl) EvE.int OpB.eq_int) (fun h => ?_) fun h => ?_)
  · rw [e0] at h
    have h0 : i = 0 := by simpa using h
    refine WS.cons (WS.if_ (EvT.cmp (EvE.def_ hP.x hF hP.f_ifmt (m := 1) hn (fn_ifmt hP m) (.cons (EvE.name hF (i := 0) rfl rfl) .nil rfl)) (EvE.name hF (i := 4) rfl rfl) OpB.eq_int) (fun h => ?_) fun h => ?_)
    · refine WS.cons (WS.append hF (i := 1) rfl rfl noRo_F (EvE.name hF (i := 5) rfl rfl) (by simp; rw [sizeLine_eq]; omega) ?_)
      refine WS.cons (WS.brk ?_)
      have ht : testF m i (b, c) = true := by unfold testF; rw [if_pos h0]; exact h
      show if testF m i (b, c) = true then _ else _
      rw [if_pos ht]
      exact ⟨rfl, by rw [sL_snoc]; rfl⟩
    · refine WS.nil (WS.nil ?_)
      have ht : testF m i (b, c) = false := by unfold testF; rw [if_pos h0]; exact h
      show WS _ _ (execs [] _) _
      refine WS.nil ?_
      rw [if_neg (by rw [ht]; decide)]
      exact ⟨rfl, rfl⟩
  · rw [e0] at h
    have h0 : ¬ i = 0 := by simpa using h
    refine WS.cons (WS.if_ (EvT.cmp (EvE.bin (EvE.name hF (i := 0) rfl rfl) (EvE.name hF (i := 4) rfl rfl) OpB.and_int) (EvE.name hF (i := 4) rfl rfl) OpB.eq_int) (fun h => ?_) fun h => ?_)
    · refine WS.cons (WS.append hF (i := 1) rfl rfl noRo_F (EvE.name hF (i := 5) rfl rfl) (by simp; rw [sizeLine_eq]; omega) ?_)
      refine WS.cons (WS.brk ?_)
      have ht : testF m i (b, c) = true := by unfold testF; rw [if_neg h0]; exact h
      show if testF m i (b, c) = true then _ else _
      rw [if_pos ht]
      exact ⟨rfl, by rw [sL_snoc]; rfl⟩
    · refine WS.nil (WS.nil ?_)
      have ht : testF m i (b, c) = false := by unfold testF; rw [if_neg h0]; exact h
      show WS _ _ (execs [] _) _
      refine WS.nil ?_
      rw [if_neg (by rw [ht]; decide)]
      exact ⟨rfl, rfl⟩
theorem fmT_get {i : Nat} (hi : i < 10) : ((fmT.map fun t => D.tuple (fmRow t))[i]?).getD .none = .tuple (fmRow (fmT.getD i [])) := by
  have : i < fmT.length := hi
  simp [this]
theorem fmRow_get {t : List (Int × Str)} {k : Nat} (hk : k < t.length) : ((fmRow t)[k]?).getD .none = .tuple [.int (t.getD k default).1, .str (t.getD k default).2] := by
  simp [hk]
theorem signF_some {m : Int} {i k : Nat} (hk : k < (fmT.getD i []).length) (h : ∀ j, j < k → testF m i ((fmT.getD i []).getD j default) = false) (ht : testF m i ((fmT.getD i []).getD k default) = true) : signF m i = ((fmT.getD i []).getD k default).2 := by
  unfold signF
  have : (fmT.getD i []).find? (testF m i) = some ((fmT.getD i []).getD k default) := by
    rw [List.find?_eq_some_iff_getElem]
    refine ⟨ht, k, hk, by rw [List.getD_eq_getElem?_getD (l := fmT.getD i []), List.getElem?_eq_getElem hk]; rfl, fun j hj => ?_⟩
    have := h j hj
    have hj' : j < (fmT.getD i []).length := by omega
    rw [List.getD_eq_getElem?_getD, List.getElem?_eq_getElem hj'] at this
    simpa using this
  rw [this]
theorem signF_none {m : Int} {i : Nat} (h : ∀ j, j < (fmT.getD i []).length → testF m i ((fmT.getD i []).getD j default) = false) : signF m i = if i = 0 then ("?" : Str) else "-" := by
  unfold signF
  have : (fmT.getD i []).find? (testF m i) = none := by
    rw [List.find?_eq_none]
    intro p hp
    obtain ⟨j, hj, rfl⟩ := List.getElem_of_mem hp
    have := h j hj
    rw [List.getD_eq_getElem?_getD, List.getElem?_eq_getElem hj] at this
    simpa using this
  rw [this]
theorem signsF_succ (m : Int) (k : Nat) : signsF m (k + 1) = signsF m k ++ [signF m k] := by
  unfold signsF; rw [List.range_succ, List.map_append]; rfl
noncomputable def filemodeS (m : Int) : Str := Str.join "" (signsF m 10)
theorem signF_len (m : Int) (i : Nat) : (signF m i).length ≤ 1 := by
  have key : ∀ i, ∀ p ∈ fmT.getD i [], p.2.length ≤ 1 := by
    intro i p hp
    have : i < 10 ∨ 10 ≤ i := by omega
    rcases this with h | h
    · have all : (fmT.all fun t => t.all fun p => Nat.ble p.2.length 1) = true := by decide +kernel
      have hm : fmT.getD i [] ∈ fmT := by
        have : i < fmT.length := h
        rw [List.getD_eq_getElem?_getD, List.getElem?_eq_getElem this]; exact List.getElem_mem _
      exact Nat.le_of_ble_eq_true (List.all_eq_true.mp (List.all_eq_true.mp all _ hm) p hp)
    · have : fmT.getD i [] = [] := by
        rw [List.getD_eq_getElem?_getD, List.getElem?_eq_none (by show 10 ≤ i; exact h)]; rfl
      rw [this] at hp; cases hp
  unfold signF
  split
  · rename_i p hp; exact key i p (List.mem_of_find?_eq_some hp)
  · split <;> exact Nat.le_refl 1
theorem sum_le : ∀ (l : List Str), (∀ x ∈ l, x.length ≤ 1) → (l.map (·.length)).sum ≤ l.length
  | [], _ => Nat.le_refl _
  | x :: l, h => by
    have := sum_le l fun y hy => h y (.tail _ hy)
    have := h x (.head _)
    simp only [List.map_cons, List.sum_cons, List.length_cons]; omega
theorem fn_filemode (hP : Pg X) {n : Nat} (m : Int) : FnS X (n + 2) (.ref 78) [.int m] (.str (filemodeS m)) := by
  refine FnS.body (n := n + 1) (lay := layF) (glob := globF) (k := 5) hP.x hP.f_filemode.2 rfl (by decide +kernel) (by decide +kernel) rfl rfl fun g eX en hF => ?_
  subst eX
  refine WS.cons (WS.assign_own hF (i := 1) rfl (EvN.list .nil (le_size rfl)) fun a => ?_)
  have lenS : ∀ k, (signsF m k).length = k := fun k => by simp [signsF]
  refine WS.cons (WS.forX (N := 10) (fun i σ' => ∃ o2 o3 o4 o5, σ' = sigF m a (signsF m i) o2 o3 o4 o5)
    (EvItX.walkT (upd := fun i σ' => setTo 3 (.tuple (fmRow (fmT.getD i []))) (setTo 2 (.int i) σ')) (ItT.enum_tuple (ds := fmT.map fun t => D.tuple (fmRow t)) (EvV.bi hP.x hF hP.b_enum) (EvE.globD (EvV.glob hP.x hF (List.contains_iff_mem.mp rfl) hP.t_fm.1) hP.t_fm.2)) (fun bs i hi => ?_) fun i σ' a ha => setTo_own _ _ _ _ (setTo_own _ _ _ _ ha)) ⟨none, none, none, none, rfl⟩ (fun bs i σ' hi hI => ?_) fun σ' hI => ?_)
  · rw [fmT_get hi]; exact Asg.pair (C := (Bd 23 layF globF g).more bs) hF (i := 2) (j := 3) rfl rfl
  · obtain ⟨o2, o3, o4, o5, rfl⟩ := hI
    let g' : Sg := { g with Wo := bs ++ g.Wo }
    have hF' : FmOk (Bd 23 layF globF g').F := hF
    clear hF
    show WS (Bd 23 layF globF g') (sigF m a (signsF m i) (some (.int i)) (some (.tuple (fmRow (fmT.getD i [])))) o4 o5) _ _
    refine WS.cons (WS.for_ (N := (fmRow (fmT.getD i [])).length) (fun k σ' => (∃ o4 o5, σ' = sigF m a (signsF m i) (some (.int i)) (some (.tuple (fmRow (fmT.getD i [])))) o4 o5) ∧ ∀ j, j < k → testF m i ((fmT.getD i []).getD j default) = false)
      (EvIt.walk (upd := fun k σ' => setTo 5 (.str ((fmT.getD i []).getD k default).2) (setTo 4 (.int ((fmT.getD i []).getD k default).1) σ')) (ItW.tuple (EvE.name hF' (i := 3) rfl rfl)) (fun k hk => ?_) fun k σ' a ha => setTo_own _ _ _ _ (setTo_own _ _ _ _ ha)) ⟨⟨o4, o5, rfl⟩, fun j hj => absurd hj (Nat.not_lt_zero j)⟩ (fun k σ' hk hI => ?_) fun σ' hI => ?_)
    · rw [fmRow_get (by simpa using hk)]; exact Asg.pair hF' (i := 4) (j := 5) rfl rfl
    · obtain ⟨⟨p4, p5, rfl⟩, hj⟩ := hI
      have hk' : k < (fmT.getD i []).length := by simpa using hk
      refine WS.mono (turn_fm (g := g') hP (by show 1 ≤ g.n; omega) hF' m a (signsF m i) i ((fmT.getD i []).getD k default).1 ((fmT.getD i []).getD k default).2 (some (.tuple (fmRow (fmT.getD i [])))) (by rw [lenS]; omega)) fun df σ'' h => ?_
      by_cases ht : testF m i ((fmT.getD i []).getD k default) = true
      · have ht' : testF m i (((fmT.getD i []).getD k default).1, ((fmT.getD i []).getD k default).2) = true := ht
        rw [if_pos ht'] at h
        obtain ⟨h1, h2⟩ := h
        subst h1 h2
        refine WS.nil ?_
        refine ⟨some (.int i), some (.tuple (fmRow (fmT.getD i []))), some (.int ((fmT.getD i []).getD k default).1), some (.str ((fmT.getD i []).getD k default).2), ?_⟩
        rw [signsF_succ, signF_some hk' hj ht]
      · have ht' : ¬ testF m i (((fmT.getD i []).getD k default).1, ((fmT.getD i []).getD k default).2) = true := ht
        rw [if_neg ht'] at h
        obtain ⟨h1, h2⟩ := h
        subst h1 h2
        refine ⟨⟨_, _, rfl⟩, fun j hj' => ?_⟩
        by_cases hjk : j = k
        · subst hjk; simpa using ht
        · exact hj j (by omega)
    · obtain ⟨⟨p4, p5, rfl⟩, hj⟩ := hI
      have hj' : ∀ j, j < (fmT.getD i []).length → testF m i ((fmT.getD i []).getD j default) = false := fun j h => hj j (by simpa using h)
      have e0 : ((i : Int) == 0) = decide (i = 0) := by rw [Bool.eq_iff_iff]; simp
      refine WS.cons (WS.if_ (EvT.cmp (EvE.name hF' (i := 2) rfl rfl) EvE.int OpB.eq_int) (fun h => ?_) fun h => ?_)
      all_goals rw [e0] at h
      · refine WS.cons (WS.append hF' (i := 1) rfl rfl noRo_F EvE.str (by simp; rw [lenS, sizeLine_eq]; omega) ?_)
        refine WS.nil (WS.nil (WS.nil ⟨some (.int i), some (.tuple (fmRow (fmT.getD i []))), p4, p5, ?_⟩))
        rw [signsF_succ, signF_none hj', if_pos (by simpa using h), sL_snoc]
        rfl
      · refine WS.cons (WS.append hF' (i := 1) rfl rfl noRo_F EvE.str (by simp; rw [lenS, sizeLine_eq]; omega) ?_)
        refine WS.nil (WS.nil (WS.nil ⟨some (.int i), some (.tuple (fmRow (fmT.getD i []))), p4, p5, ?_⟩))
        rw [signsF_succ, signF_none hj', if_neg (by simpa using h), sL_snoc]
        rfl
  · obtain ⟨o2, o3, o4, o5, rfl⟩ := hI
    refine WS.nil ?_
    refine WS.cons (WS.freeze (i := 1) rfl (WS.ret (EvE.strJoin EvE.str (EvE.name hF (i := 1) rfl rfl) ?_) rfl))
    have := sum_le (signsF m 10) fun x hx => by
      obtain ⟨j, _, rfl⟩ := List.mem_map.mp hx
      exact signF_len m j
    rw [lenS] at this ⊢
    show _ + 10 * 0 ≤ _
    omega
end
end Mine
namespace Mine
open MineP
section
variable {X : Wd}
noncomputable def tokIn (a b : Nat) : List Nat := if a = b then (if a = 63 then [91, 63, 93] else [a]) else if a < b then [91, a, 45, b, 93] else [91, b, 45, a, 93]
noncomputable def patL (x y : Str) (k : Nat) : List Nat := (List.range k).flatMap fun i => tokIn (x.cps.getD i 0) (y.cps.getD i 0)
noncomputable def strOf (l : List Nat) : Str := ⟨l.toArray⟩
theorem strOf_app (l r : List Nat) : strOf l ++ strOf r = strOf (l ++ r) := by
  show (⟨l.toArray ++ r.toArray⟩ : Str) = ⟨(l ++ r).toArray⟩
  simp
theorem patL_succ (x y : Str) (k : Nat) : patL x y (k + 1) = patL x y k ++ tokIn (x.cps.getD k 0) (y.cps.getD k 0) := by
  unfold patL; rw [List.range_succ, List.flatMap_append]; simp
theorem tokIn_len (a b : Nat) : (tokIn a b).length ≤ 5 := by
  unfold tokIn; split <;> (try split) <;> simp
theorem patL_len (x y : Str) : ∀ k, (patL x y k).length ≤ 5 * k
  | 0 => by simp [patL]
  | k + 1 => by rw [patL_succ, List.length_append]; have := patL_len x y k; have := tokIn_len (x.cps.getD k 0) (y.cps.getD k 0); omega
theorem strcoll_ch (a b : Nat) : decide (strcollD (ch a) (ch b) < 0) = decide (a < b) := by
  unfold strcollD
  have h1 : decide ((ch b).cps.toList < (ch a).cps.toList) = decide (b < a) := by simp [List.cons_lt_cons_iff]
  have h2 : decide ((ch a).cps.toList < (ch b).cps.toList) = decide (a < b) := by simp [List.cons_lt_cons_iff]
  rw [h1, h2]
  rcases Nat.lt_trichotomy a b with h | h | h
  · have : ¬ b < a := by omega
    simp [h, this, b2i]
  · subst h; simp
  · have : ¬ a < b := by omega
    simp [h, this, b2i]
noncomputable abbrev layP : List (Str × Bool) := [("one", false), ("other", false), ("pattern", false), ("a", false), ("b", false)]
noncomputable abbrev sigP (x y : Str) (p : List Nat) (o3 o4 : Option Slot) : Sig := [some (.val (.str x)), some (.val (.str y)), some (.val (.str (strOf p))), o3, o4]
theorem sz50 {n : Nat} (h : n ≤ 1000) : n ≤ sizeLine := by rw [sizeLine_eq]; omega
theorem turn_pat {g : Sg} (hP : Pg g.X) (hn : 1 ≤ g.n) (hF : FmOk (Bd 38 layP ["zip", "_strcoll"] g).F) (x y : Str) (p : List Nat) (a b : Nat) (hp : p.length ≤ 100) :
    WS (Bd 38 layP ["zip", "_strcoll"] g) (sigP x y p (some (.val (.str (ch a)))) (some (.val (.str (ch b))))) (execs (forBody 38 1) (Bd 38 layP ["zip", "_strcoll"] g).env) (fun df σ' => df = .next ∧ σ' = sigP x y (p ++ tokIn a b) (some (.val (.str (ch a)))) (some (.val (.str (ch b))))) := by
  have len : ∀ l : List Nat, (strOf l).length = l.length := fun l => by show l.toArray.size = _; simp
  have one : ∀ {c : Nat}, ch c = strOf [c] := rfl
  have eab : ((ch a).cps.toList == (ch b).cps.toList) = decide (a = b) := by rw [Bool.eq_iff_iff]; simp
  refine WS.cons (WS.if_ (EvT.cmp (EvE.name hF (i := 3) rfl rfl) (EvE.name hF (i := 4) rfl rfl) OpB.eq_str) (fun h => ?_) fun h => ?_)
  · rw [eab] at h
    have h0 : a = b := by simpa using h
    refine WS.cons (WS.aug (d₁ := .str (strOf (tokIn a b))) hF (i := 2) rfl rfl (EvE.ifexp (EvT.cmp (EvE.name hF (i := 3) rfl rfl) EvE.str OpB.eq_str) (fun h => EvE.str.to ?_) fun h => (EvE.name hF (i := 3) rfl rfl).to ?_) (OpB.iadd_str (sz50 (by rw [len, len]; have := tokIn_len a b; omega))) ?_)
    · have : a = 63 := by simpa using (show ([a] == [63]) = true from h)
      unfold tokIn; rw [if_pos h0, if_pos this]; rfl
    · have : ¬ a = 63 := by simpa using (show ([a] == [63]) = false from h)
      unfold tokIn; rw [if_pos h0, if_neg this]; rfl
    · exact WS.nil (WS.nil ⟨rfl, by rw [strOf_app]; rfl⟩)
  · rw [eab] at h
    have h0 : ¬ a = b := by simpa using h
    have cat : ∀ {u v : Nat} {e f : Expr} {k1 k2 k3 : Nat} {p1 p2 p3 p4 p5 p6 p7 : Pos}, EvE (Bd 38 layP ["zip", "_strcoll"] g) (sigP x y p (some (.val (.str (ch a)))) (some (.val (.str (ch b))))) e (.str (ch u)) → EvE (Bd 38 layP ["zip", "_strcoll"] g) (sigP x y p (some (.val (.str (ch a)))) (some (.val (.str (ch b))))) f (.str (ch v)) →
        EvE (Bd 38 layP ["zip", "_strcoll"] g) (sigP x y p (some (.val (.str (ch a)))) (some (.val (.str (ch b))))) (.BinOp (.BinOp (.BinOp (.BinOp (.Constant (.str "[") k1 p1) .Add e p2) .Add (.Constant (.str "-") k2 p3) p4) .Add f p5) .Add (.Constant (.str "]") k3 p6) p7) (.str (strOf [91, u, 45, v, 93])) := fun h1 h2 =>
      (EvE.bin (EvE.bin (EvE.bin (EvE.bin EvE.str h1 (OpB.add_str (le_size rfl))) EvE.str (OpB.add_str (le_size rfl))) h2 (OpB.add_str (le_size rfl))) EvE.str (OpB.add_str (le_size rfl))).to rfl
    refine WS.cons (WS.if_ ((EvT.cmp (EvE.def_ hP.x hF hP.f_strcoll (m := 1) hn (fn_strcoll hP (ch a) (ch b)) (.cons (EvE.name hF (i := 3) rfl rfl) (.cons (EvE.name hF (i := 4) rfl rfl) .nil rfl) rfl)) EvE.int OpB.lt_int).to (strcoll_ch a b)) (fun h => ?_) fun h => ?_)
    · have h1 : a < b := by simpa using h
      refine WS.cons (WS.aug hF (i := 2) rfl rfl (cat (EvE.name hF (i := 3) rfl rfl) (EvE.name hF (i := 4) rfl rfl)) (OpB.iadd_str (sz50 (by rw [len, len]; show _ + 5 ≤ _; omega))) ?_)
      refine WS.nil (WS.nil (WS.nil ⟨rfl, ?_⟩))
      rw [strOf_app]; unfold tokIn; rw [if_neg h0, if_pos h1]; rfl
    · have h1 : ¬ a < b := by simpa using h
      refine WS.cons (WS.aug hF (i := 2) rfl rfl (cat (EvE.name hF (i := 4) rfl rfl) (EvE.name hF (i := 3) rfl rfl)) (OpB.iadd_str (sz50 (by rw [len, len]; show _ + 5 ≤ _; omega))) ?_)
      refine WS.nil (WS.nil (WS.nil ⟨rfl, ?_⟩))
      rw [strOf_app]; unfold tokIn; rw [if_neg h0, if_neg h1]; rfl
theorem fn_pattern (hP : Pg X) {n : Nat} (x y : Str) (hx : x.cps.all (· < 128) = true) (hy : y.cps.all (· < 128) = true) (hl : x.length = y.length) (hl2 : x.length ≤ 10) : FnS X (n + 2) (.ref 144) [.str x, .str y] (.str (strOf (patL x y x.length))) := by
  refine FnS.body (n := n + 1) (lay := layP) (glob := ["zip", "_strcoll"]) (k := 3) hP.x hP.f_pattern.2 rfl (by decide +kernel) (by decide +kernel) rfl rfl fun g eX en hF => ?_
  subst eX
  refine WS.cons (WS.assign hF (i := 2) (d := .str (strOf [])) rfl (EvE.str.to rfl) ?_)
  refine WS.cons (WS.forX (N := x.length) (fun i σ' => ∃ o3 o4, σ' = sigP x y (patL x y i) o3 o4)
    (EvItX.walkT (upd := fun i σ' => setTo 4 (.str (ch (y.cps.getD i 0))) (setTo 3 (.str (ch (x.cps.getD i 0))) σ')) (ItT.zip_str (EvV.bi hP.x hF hP.b_zip) (EvE.name hF (i := 0) rfl rfl) (EvE.name hF (i := 1) rfl rfl) hx hy hl) (fun bs i hi => ?_) fun i σ' a ha => setTo_own _ _ _ _ (setTo_own _ _ _ _ ha)) ⟨none, none, rfl⟩ (fun bs i σ' hi hI => ?_) fun σ' hI => ?_)
  · exact Asg.pair (C := (Bd 38 layP ["zip", "_strcoll"] g).more bs) hF (i := 3) (j := 4) rfl rfl
  · obtain ⟨o3, o4, rfl⟩ := hI
    let g' : Sg := { g with Wo := bs ++ g.Wo }
    have := patL_len x y i
    refine WS.mono (turn_pat (g := g') hP (by show 1 ≤ g.n; omega) hF x y (patL x y i) (x.cps.getD i 0) (y.cps.getD i 0) (by omega)) fun df σ'' ⟨h1, h2⟩ => ?_
    subst h1 h2
    exact ⟨_, _, by rw [patL_succ]⟩
  · obtain ⟨o3, o4, rfl⟩ := hI
    exact WS.nil (WS.cons (WS.ret (EvE.name hF (i := 2) rfl rfl) rfl))
end
end Mine
namespace Mine
open MineP
section
variable {X : Wd}
noncomputable abbrev layG : List (Str × Bool) := [("text", false), ("ranges", false), ("k", false), ("inside", false), ("low", false), ("high", false)]
noncomputable abbrev globG : List Str := ["len", "_law_sign"]
noncomputable abbrev CG (g : Sg) : Cx := Bd 40 layG globG g
noncomputable abbrev sigG (x : Str) (a : Addr) (rs : List (Str × Str)) (k : Nat) (o3 o4 o5 : Option D) : Sig := [some (.val (.str x)), some (.own a (rgL rs)), some (.val (.int k)), ov o3, ov o4, ov o5]
noncomputable def whileBody (i j : Nat) : List Stmt := match (bodyOf i)[j]? with
  | some (.While _ b _ _) => b
  | _ => []
theorem noRo_G {x : Str} {a : Addr} {rs : List (Str × Str)} {k : Nat} {o3 o4 o5 : Option D} : NoRo (sigG x a rs k o3 o4 o5) := noRo_of (by cases o3 <;> cases o4 <;> cases o5 <;> rfl)
theorem rgL_snoc (rs : List (Str × Str)) (l h : Str) : rgL rs ++ [.tuple [.str l, .str h]] = rgL (rs ++ [(l, h)]) := by simp
/-- one range read: what stands at k -/
inductive Rd (x : Str) (k : Nat) : Nat → Nat → Nat → Prop
  | one {c : Nat} : x.cps[k]? = some c → c ≠ 91 → c ≠ 92 → Rd x k c c (k + 1)
  | esc {c : Nat} : x.cps[k]? = some 92 → x.cps[k + 1]? = some c → Rd x k c c (k + 2)
  | br {c : Nat} : x.cps[k]? = some 91 → x.cps[k + 1]? = some c → c ≠ 92 → x.cps[k + 2]? = some 93 → Rd x k c c (k + 3)
  | pair {c d : Nat} : x.cps[k]? = some 91 → x.cps[k + 1]? = some c → c ≠ 92 → x.cps[k + 2]? = some 45 → x.cps[k + 3]? = some d → d ≠ 92 → x.cps[k + 4]? = some 93 → Rd x k c d (k + 5)
  | epair {c d : Nat} : x.cps[k]? = some 91 → x.cps[k + 1]? = some 92 → x.cps[k + 2]? = some c → x.cps[k + 3]? = some 45 → x.cps[k + 4]? = some d → d ≠ 92 → x.cps[k + 5]? = some 93 → Rd x k c d (k + 6)
theorem turn_rg {g : Sg} (hP : Pg g.X) (hn : 1 ≤ g.n) (hF : FmOk (CG g).F) (x : Str) (a : Addr) (rs : List (Str × Str)) (k k' lo hi : Nat) (o3 o4 o5 : Option D) (hx : x.length ≤ 1000) (hr : rs.length ≤ 100) (rd : Rd x k lo hi k') :
    WS (CG g) (sigG x a rs k o3 o4 o5) (execs (whileBody 40 2) (CG g).env) (fun df σ' => df = .next ∧ ∃ o3 o4 o5, σ' = sigG x a (rs ++ [(ch lo, ch hi)]) k' o3 o4 o5) := by
  have lt : ∀ {j c : Nat}, x.cps[j]? = some c → j < 1000 := fun {j c} h => by have : j < x.length := (Array.getElem?_eq_some_iff.mp h).1; omega
  -- one sign, read by _law_sign
  have sg : ∀ {j c j' : Nat}, (x.cps[j]? = some c ∧ c ≠ 92 ∧ j' = j + 1) ∨ (x.cps[j]? = some 92 ∧ x.cps[j + 1]? = some c ∧ j' = j + 2) → FnS g.X 1 (.ref 151) [.str x, .int j] (.tuple [.str (ch c), .int (j' : Nat)]) := fun {j c j'} h => by
    rcases h with ⟨h1, h2, rfl⟩ | ⟨h1, h2, rfl⟩
    · exact fn_sign1 hP x j c h1 h2 hx
    · exact fn_sign2 hP x j c h1 h2 hx
  -- a sign of the text
  have at_ : ∀ {σ : Sig} {j c : Nat} {p q r : Pos}, σ[0]? = some (some (.val (.str x))) → σ[2]? = some (some (.val (.int j))) → x.cps[j]? = some c → EvE (CG g) σ (.Subscript (.Name "text" p) (.Name "k" q) r) (.str (ch c)) := fun h0 h2 hc =>
    EvE.item_str (EvE.name hF (i := 0) rfl h0) (EvE.name hF (i := 2) rfl h2) (by omega) (by have := lt hc; omega) (by simpa using hc)
  have tst : ∀ {σ : Sig} {j c d : Nat} {s : Str} {p q r t u : Pos} {kk : Nat}, σ[0]? = some (some (.val (.str x))) → σ[2]? = some (some (.val (.int j))) → x.cps[j]? = some c → s.cps.toList = [d] → EvE (CG g) σ (.Compare (.Subscript (.Name "text" p) (.Name "k" q) r) [.Eq] [.Constant (.str s) kk t] u) (.bool (decide (c = d))) := fun h0 h2 hc hs =>
    (EvE.cmp (at_ h0 h2 hc) EvE.str OpB.eq_str (by rfl)).to (by rw [hs]; congr 1; rw [Bool.eq_iff_iff]; simp)
  have tsT : ∀ {σ : Sig} {j c d : Nat} {s : Str} {p q r t u : Pos} {kk : Nat}, σ[0]? = some (some (.val (.str x))) → σ[2]? = some (some (.val (.int j))) → x.cps[j]? = some c → s.cps.toList = [d] → EvT (CG g) σ (.Compare (.Subscript (.Name "text" p) (.Name "k" q) r) [.Eq] [.Constant (.str s) kk t] u) (decide (c = d)) := fun h0 h2 hc hs =>
    (EvT.cmp (at_ h0 h2 hc) EvE.str OpB.eq_str (by rfl)).to (by rw [hs]; rw [Bool.eq_iff_iff]; simp)
  have tsN : ∀ {σ : Sig} {j c d : Nat} {s : Str} {p q r t u : Pos} {kk : Nat}, σ[0]? = some (some (.val (.str x))) → σ[2]? = some (some (.val (.int j))) → x.cps[j]? = some c → s.cps.toList = [d] → EvT (CG g) σ (.Compare (.Subscript (.Name "text" p) (.Name "k" q) r) [.NotEq] [.Constant (.str s) kk t] u) (!decide (c = d)) := fun h0 h2 hc hs =>
    (EvT.cmp (at_ h0 h2 hc) EvE.str OpB.ne_str (by rfl)).to (by rw [hs]; rw [Bool.eq_iff_iff]; simp)
  have ins : ∀ {σ : Sig} {b : Bool} {p : Pos}, σ[3]? = some (some (.val (.bool b))) → EvT (CG g) σ (.Name "inside" p) b := fun h => EvT.val (EvE.name hF (i := 3) rfl h) rfl (fun x e => nomatch e)
  have szr : (rgL rs).length ≤ sizeLine := sz50 (by simp; omega)
  -- without brackets
  have plain : ∀ {c0 c j' : Nat}, x.cps[k]? = some c0 → c0 ≠ 91 → ((x.cps[k]? = some c ∧ c ≠ 92 ∧ j' = k + 1) ∨ (x.cps[k]? = some 92 ∧ x.cps[k + 1]? = some c ∧ j' = k + 2)) →
      WS (CG g) (sigG x a rs k o3 o4 o5) (execs (whileBody 40 2) (CG g).env) (fun df σ' => df = .next ∧ ∃ o3 o4 o5, σ' = sigG x a (rs ++ [(ch c, ch c)]) j' o3 o4 o5) := by
    intro c0 c j' h0 hn91 hs
    refine WS.cons (WS.assign hF (i := 3) (d := .bool false) rfl ((tst rfl rfl h0 (d := 91) rfl).to (by rw [decide_eq_false hn91])) ?_)
    refine WS.cons (WS.unpack hF (is := [4, 2]) (ds := [.str (ch c), .int (j' : Nat)]) (EvU.tuple (EvE.def_ hP.x hF hP.f_sign (m := 1) hn (sg hs) (.cons (EvE.name hF (i := 0) rfl rfl) (.cons (EvE.ifexp_f (ins rfl) (EvE.name hF (i := 2) rfl rfl)) .nil rfl) rfl))) (.name rfl (.name rfl .nil)) rfl ?_)
    refine WS.cons (WS.assign hF (i := 5) rfl (EvE.name hF (i := 4) rfl rfl) ?_)
    refine WS.cons (WS.if_f ((EvT.and2 (c := false) (d := false) (ins rfl) (fun e => nomatch e)).to rfl) (WS.nil ?_))
    refine WS.cons (WS.if_f ((EvT.and2 (c := false) (d := false) (ins rfl) (fun e => nomatch e)).to rfl) (WS.nil ?_))
    refine WS.cons (WS.append hF (i := 1) rfl rfl (noRo_of (by cases o3 <;> cases o4 <;> cases o5 <;> rfl)) (EvE.tuple (.cons (EvE.name hF (i := 4) rfl rfl) (.cons (EvE.name hF (i := 5) rfl rfl) .nil rfl) rfl) (le_size rfl)) szr ?_)
    refine WS.cons (WS.aug hF (i := 2) rfl rfl (EvE.ifexp_f (ins rfl) EvE.int) (OpB.iadd_int.to (d' := .int (j' : Nat)) (by simp)) ?_)
    refine WS.nil ⟨rfl, some (.bool false), some (.str (ch c)), some (.str (ch c)), ?_⟩
    rw [rgL_snoc]; rfl
  -- within brackets, one sign
  have brk1 : ∀ {c j : Nat}, x.cps[k]? = some 91 → ((x.cps[k + 1]? = some c ∧ c ≠ 92 ∧ j = k + 1 + 1) ∨ (x.cps[k + 1]? = some 92 ∧ x.cps[k + 1 + 1]? = some c ∧ j = k + 1 + 2)) → x.cps[j]? = some 93 →
      WS (CG g) (sigG x a rs k o3 o4 o5) (execs (whileBody 40 2) (CG g).env) (fun df σ' => df = .next ∧ ∃ o3 o4 o5, σ' = sigG x a (rs ++ [(ch c, ch c)]) (j + 1) o3 o4 o5) := by
    intro c j h0 hs hj
    refine WS.cons (WS.assign hF (i := 3) (d := .bool true) rfl ((tst rfl rfl h0 (d := 91) rfl).to rfl) ?_)
    refine WS.cons (WS.unpack hF (is := [4, 2]) (ds := [.str (ch c), .int (j : Nat)]) (EvU.tuple (EvE.def_ hP.x hF hP.f_sign (m := 1) hn (sg hs) (.cons (EvE.name hF (i := 0) rfl rfl) (.cons (EvE.ifexp_t (ins rfl) (EvE.bin (EvE.name hF (i := 2) rfl rfl) EvE.int (OpB.add_nat (b := 1)))) .nil rfl) rfl))) (.name rfl (.name rfl .nil)) rfl ?_)
    refine WS.cons (WS.assign hF (i := 5) rfl (EvE.name hF (i := 4) rfl rfl) ?_)
    refine WS.cons (WS.if_f ((EvT.and2 (c := true) (ins rfl) (fun _ => tsT rfl rfl hj (d := 45) rfl)).to rfl) (WS.nil ?_))
    refine WS.cons (WS.if_f ((EvT.and2 (c := true) (ins rfl) (fun _ => tsN rfl rfl hj (d := 93) rfl)).to rfl) (WS.nil ?_))
    refine WS.cons (WS.append hF (i := 1) rfl rfl (noRo_of (by cases o3 <;> cases o4 <;> cases o5 <;> rfl)) (EvE.tuple (.cons (EvE.name hF (i := 4) rfl rfl) (.cons (EvE.name hF (i := 5) rfl rfl) .nil rfl) rfl) (le_size rfl)) szr ?_)
    refine WS.cons (WS.aug hF (i := 2) rfl rfl (EvE.ifexp_t (ins rfl) EvE.int) (OpB.iadd_int.to (d' := .int ((j + 1 : Nat) : Int)) (by simp)) ?_)
    refine WS.nil ⟨rfl, some (.bool true), some (.str (ch c)), some (.str (ch c)), ?_⟩
    rw [rgL_snoc]; rfl
  -- within brackets, two signs
  have brk2 : ∀ {c d j j' : Nat}, x.cps[k]? = some 91 → ((x.cps[k + 1]? = some c ∧ c ≠ 92 ∧ j = k + 1 + 1) ∨ (x.cps[k + 1]? = some 92 ∧ x.cps[k + 1 + 1]? = some c ∧ j = k + 1 + 2)) → x.cps[j]? = some 45 → x.cps[j + 1]? = some d → d ≠ 92 → j' = j + 1 + 1 → x.cps[j']? = some 93 →
      WS (CG g) (sigG x a rs k o3 o4 o5) (execs (whileBody 40 2) (CG g).env) (fun df σ' => df = .next ∧ ∃ o3 o4 o5, σ' = sigG x a (rs ++ [(ch c, ch d)]) (j' + 1) o3 o4 o5) := by
    intro c d j j' h0 hs hj hd hd2 ej hj'
    refine WS.cons (WS.assign hF (i := 3) (d := .bool true) rfl ((tst rfl rfl h0 (d := 91) rfl).to rfl) ?_)
    refine WS.cons (WS.unpack hF (is := [4, 2]) (ds := [.str (ch c), .int (j : Nat)]) (EvU.tuple (EvE.def_ hP.x hF hP.f_sign (m := 1) hn (sg hs) (.cons (EvE.name hF (i := 0) rfl rfl) (.cons (EvE.ifexp_t (ins rfl) (EvE.bin (EvE.name hF (i := 2) rfl rfl) EvE.int (OpB.add_nat (b := 1)))) .nil rfl) rfl))) (.name rfl (.name rfl .nil)) rfl ?_)
    refine WS.cons (WS.assign hF (i := 5) rfl (EvE.name hF (i := 4) rfl rfl) ?_)
    refine WS.cons (WS.if_t ((EvT.and2 (c := true) (ins rfl) (fun _ => tsT rfl rfl hj (d := 45) rfl)).to rfl) ?_)
    refine WS.cons (WS.unpack hF (is := [5, 2]) (ds := [.str (ch d), .int (j' : Nat)]) (EvU.tuple (EvE.def_ hP.x hF hP.f_sign (m := 1) hn (sg (.inl ⟨hd, hd2, ej⟩)) (.cons (EvE.name hF (i := 0) rfl rfl) (.cons (EvE.bin (EvE.name hF (i := 2) rfl rfl) EvE.int (OpB.add_nat (b := 1))) .nil rfl) rfl))) (.name rfl (.name rfl .nil)) rfl (WS.nil ?_))
    refine WS.cons (WS.if_f ((EvT.and2 (c := true) (ins rfl) (fun _ => tsN rfl rfl hj' (d := 93) rfl)).to rfl) (WS.nil ?_))
    refine WS.cons (WS.append hF (i := 1) rfl rfl (noRo_of (by cases o3 <;> cases o4 <;> cases o5 <;> rfl)) (EvE.tuple (.cons (EvE.name hF (i := 4) rfl rfl) (.cons (EvE.name hF (i := 5) rfl rfl) .nil rfl) rfl) (le_size rfl)) szr ?_)
    refine WS.cons (WS.aug hF (i := 2) rfl rfl (EvE.ifexp_t (ins rfl) EvE.int) (OpB.iadd_int.to (d' := .int ((j' + 1 : Nat) : Int)) (by simp)) ?_)
    refine WS.nil ⟨rfl, some (.bool true), some (.str (ch c)), some (.str (ch d)), ?_⟩
    rw [rgL_snoc]; rfl
  cases rd with
  | one h1 h2 h3 => exact plain h1 h2 (.inl ⟨h1, h3, rfl⟩)
  | esc h1 h2 => exact plain h1 (by decide) (.inr ⟨h1, h2, rfl⟩)
  | br h1 h2 h3 h4 => exact brk1 h1 (.inl ⟨h2, h3, rfl⟩) h4
  | pair h1 h2 h3 h4 h5 h6 h7 => exact brk2 h1 (.inl ⟨h2, h3, rfl⟩) h4 h5 h6 rfl h7
  | epair h1 h2 h3 h4 h5 h6 h7 => exact brk2 h1 (.inr ⟨h2, h3, rfl⟩) h4 h5 h6 rfl h7
end
end Mine
namespace Mine
open MineP
section
variable {X : Wd}
theorem Rd.lt {x : Str} {k k' lo hi : Nat} (r : Rd x k lo hi k') : k < k' := by cases r <;> omega
noncomputable def rgsOf (lo hi : Nat → Nat) (k : Nat) : List (Str × Str) := (List.range k).map fun i => (ch (lo i), ch (hi i))
theorem rgsOf_succ (lo hi : Nat → Nat) (k : Nat) : rgsOf lo hi (k + 1) = rgsOf lo hi k ++ [(ch (lo k), ch (hi k))] := by
  unfold rgsOf; rw [List.range_succ, List.map_append]; rfl
theorem fn_ranges (hP : Pg X) {n : Nat} (x : Str) (N : Nat) (ks lo hi : Nat → Nat) (hN : N ≤ 10) (hx : x.length ≤ 1000) (hhead : cutL x.cps.toList none (some 4) = [40, 63, 115, 58]) (htail : cutL x.cps.toList (some (-3)) none = [41, 92, 90])
    (h0 : ks 0 = 4) (hl : ks N + 3 = x.length) (rd : ∀ i, i < N → Rd x (ks i) (lo i) (hi i) (ks (i + 1))) : FnS X (n + 2) (.ref 158) [.str x] (.list (rgL (rgsOf lo hi N))) := by
  refine FnS.body (n := n + 1) (lay := layG) (glob := globG) (k := 5) hP.x hP.f_ranges.2 rfl (by decide +kernel) (by decide +kernel) rfl rfl fun g eX en hF => ?_
  subst eX
  have mono : ∀ j, j ≤ N → ks (N - j) ≤ ks N := by
    intro j
    induction j with
    | zero => intro _; exact Nat.le_refl _
    | succ j ih =>
      intro hj
      have h1 := ih (by omega)
      have h2 := (rd (N - (j + 1)) (by omega)).lt
      have e : N - (j + 1) + 1 = N - j := by omega
      rw [e] at h2
      omega
  have less : ∀ i, i < N → ks i < ks N := fun i hi => by
    have h1 := mono (N - (i + 1)) (by omega)
    have e : N - (N - (i + 1)) = i + 1 := by omega
    rw [e] at h1
    have := (rd i hi).lt
    omega
  refine WS.cons (WS.swapNil hF (i := 1) (j := 2) (q := ((4 : Nat) : Int)) rfl rfl EvE.int (fun a => ?_) rfl)
  have e1 : (cut x none (some 4)).cps.toList = [40, 63, 115, 58] := by show (cutL x.cps.toList none (some 4)).toArray.toList = _; rw [hhead]
  have e2 : (cut x (some (-3)) none).cps.toList = [41, 92, 90] := by show (cutL x.cps.toList (some (-3)) none).toArray.toList = _; rw [htail]
  refine WS.cons (WS.if_f ((EvT.or2 (c := false) (d := false) ((EvT.cmp (EvE.slice (EvE.name hF (i := 0) rfl rfl) .none (.some EvE.int) (sz50 hx)) EvE.str OpB.ne_str).to (by rw [e1]; rfl)) (fun _ => (EvT.cmp (EvE.slice (EvE.name hF (i := 0) rfl rfl) (.some (EvE.neg EvE.int)) .none (sz50 hx)) EvE.str OpB.ne_str).to (by rw [e2]; rfl))).to rfl) (WS.nil ?_))
  refine WS.cons (WS.while_ (fun m σ' => ∃ i o3 o4 o5, m = N - i ∧ i ≤ N ∧ σ' = sigG x a (rgsOf lo hi i) (ks i) o3 o4 o5) N ⟨0, none, none, none, rfl, Nat.zero_le _, by rw [h0]; rfl⟩ fun m σ' hI => ?_)
  obtain ⟨i, o3, o4, o5, rfl, hi', rfl⟩ := hI
  refine ⟨decide (i < N), (EvT.cmp (EvE.name hF (i := 2) rfl rfl) (EvE.bin (EvE.callV (EvV.bi hP.x hF hP.b_len) trivial (.cons (EvE.name hF (i := 0) rfl rfl) .nil rfl) (OpC.len_str (by omega))) EvE.int OpB.sub_int) OpB.lt_int).to ?_, fun h => ?_, fun h => ?_⟩
  · rw [Bool.eq_iff_iff]
    simp only [decide_eq_true_eq]
    by_cases hlt : i < N
    · have := less i hlt
      exact ⟨fun _ => hlt, fun _ => by omega⟩
    · have : i = N := by omega
      subst this
      exact ⟨fun q => by omega, fun q => absurd q hlt⟩
  · have hlt : i < N := by simpa using h
    refine WS.mono (turn_rg hP (by show 1 ≤ g.n; omega) hF x a (rgsOf lo hi i) (ks i) (ks (i + 1)) (lo i) (hi i) o3 o4 o5 hx (by simp [rgsOf]; omega) (rd i hlt)) fun df σ'' ⟨h1, h2⟩ => ?_
    obtain ⟨p3, p4, p5, rfl⟩ := h2
    subst h1
    exact ⟨N - (i + 1), by omega, i + 1, p3, p4, p5, rfl, hlt, by rw [rgsOf_succ]⟩
  · have : ¬ i < N := by simpa using h
    have : i = N := by omega
    subst this
    exact WS.nil (WS.cons (WS.freeze (i := 1) rfl (WS.ret (EvE.name hF (i := 1) rfl rfl) rfl)))
end
end Mine
namespace Mine
open MineP
section
variable {X : Wd}
noncomputable def escL (c : Nat) : List Nat := if c = 45 then [92, 45] else [c]
theorem fn_escape (hP : Pg X) {n : Nat} (c : Nat) (hc : c = 45 ∨ c ∈ lettersL) : FnS X (n + 1) (.ref 102) [.str (ch c)] (.str (strOf (escL c))) := by
  refine FnS.body (lay := [("pattern", false)]) (glob := ["isinstance", "str", "_special_chars_map"]) (k := 0) hP.x hP.f_escape.2 rfl (by decide +kernel) (by decide +kernel) rfl rfl fun g eX en hF => ?_
  subst eX
  obtain ⟨f, t, hm, h45, hl⟩ := hP.t_map.2
  have c128 : c < 128 := by
    rcases hc with rfl | h
    · decide
    · exact Nat.lt_of_lt_of_le (of_decide_eq_true (List.all_eq_true.mp (show (lettersL.all fun c => decide (c < 128)) = true by decide) c h)) (Nat.le_refl _)
  refine WS.cons (WS.if_t (EvT.val (EvE.callV (EvV.bi hP.x hF hP.b_isi) trivial (.cons (EvE.name hF (i := 0) rfl rfl) (.cons (EvE.typ (EvV.bi hP.x hF hP.b_str)) .nil rfl) rfl) OpC.isi_str) rfl (fun x e => nomatch e)) ?_)
  refine WS.cons (WS.ret (EvE.translate (EvE.name hF (i := 0) rfl rfl) (EvV.glob hP.x hF (List.contains_iff_mem.mp rfl) hP.t_map.1) c128 (by decide) hm ?_) rfl)
  by_cases h : c = 45
  · subst h
    exact .inr ⟨t, h45, rfl, by decide⟩
  · rcases hc with q | q
    · exact absurd q h
    · exact .inl ⟨hl c q, by unfold escL; rw [if_neg h]; rfl⟩
end
end Mine
namespace Mine
open MineP
section
variable {X : Wd}
noncomputable abbrev layJ : List (Str × Bool) := [("inp", false), ("STAR", false), ("res", false), ("add", false), ("i", false), ("n", false), ("fixed", false)]
noncomputable abbrev sigJ (xs : List Str) (st a : Addr) (k : Nat) : Sig := [some (.val (.list (sL xs))), some (.val (.obj st)), some (.own a (sL (xs.take k))), some (.app a), some (.val (.int k)), some (.val (.int xs.length)), none]
theorem fn_join (hP : Pg X) {n : Nat} (xs : List Str) (st : Addr) (hN : xs.length ≤ 10) (hs : (xs.map (·.length)).sum ≤ 900) (hj : (Str.join "" xs).length ≤ 900) : FnS X (n + 1) (.ref 116) [.list (sL xs), .obj st] (.str ("(?s:" ++ Str.join "" xs ++ ")\\Z")) := by
  refine FnS.body (lay := layJ) (glob := ["len"]) (k := 5) hP.x hP.f_join.2 rfl (by decide +kernel) (by decide +kernel) rfl rfl fun g eX en hF => ?_
  subst eX
  refine WS.cons (WS.assign_own hF (i := 2) rfl (EvN.list .nil (le_size rfl)) fun a => ?_)
  refine WS.cons (WS.bindApp hF (i := 2) (j := 3) rfl rfl rfl ?_)
  refine WS.cons (WS.unpackS hF (names := ["i", "n"]) (is := [5, 4]) (ds := [.int ((0 : Nat) : Int), .int xs.length]) rfl (EvU.tuple (EvE.tuple (.cons EvE.int (.cons ((EvE.callV (EvV.bi hP.x hF hP.b_len) trivial (.cons (EvE.name hF (i := 0) rfl rfl) .nil rfl) (OpC.len_list (by simp; omega))).to (by simp)) .nil rfl) rfl) (le_size rfl))) (.bindN rfl (.bindN rfl .nil)) rfl rfl ?_)
  refine WS.cons (WS.while_ (fun m σ' => ∃ k, m = xs.length - k ∧ k ≤ xs.length ∧ σ' = sigJ xs st a k) xs.length ⟨0, rfl, Nat.zero_le _, rfl⟩ fun m σ' hI => ?_)
  obtain ⟨k, rfl, hk, rfl⟩ := hI
  refine ⟨decide (k < xs.length) && true, EvT.and2 ((EvT.cmp (EvE.name hF (i := 4) rfl rfl) (EvE.name hF (i := 5) rfl rfl) OpB.lt_int).to (by simp)) (fun h => ?_), fun h => ?_, fun h => ?_⟩
  · have hlt : k < xs.length := by simpa using h
    exact EvT.cmp (EvE.item_list (EvE.l (EvE.name hF (i := 0) rfl rfl)) (EvE.name hF (i := 4) rfl rfl) (by omega) (by omega) (d := .str xs[k]) (by simp [hlt])) (EvE.name hF (i := 1) rfl rfl) OpB.isNot_str_obj
  · have hlt : k < xs.length := by simpa using h
    refine WS.cons (WS.callApp hF (i := 2) (j := 3) rfl rfl rfl rfl (noRo_of rfl) (EvE.item_list (EvE.l (EvE.name hF (i := 0) rfl rfl)) (EvE.name hF (i := 4) rfl rfl) (by omega) (by omega) (d := .str xs[k]) (by simp [hlt])) (sz50 (by simp; omega)) ?_)
    refine WS.cons (WS.aug hF (i := 4) rfl rfl EvE.int (OpB.iadd_int.to (d' := .int ((k + 1 : Nat) : Int)) (by simp)) ?_)
    refine WS.nil ⟨xs.length - (k + 1), by omega, k + 1, rfl, hlt, ?_⟩
    rw [sL_snoc, show xs.take k ++ [xs[k]] = xs.take (k + 1) by rw [List.take_add_one, List.getElem?_eq_getElem hlt]; rfl]
    rfl
  · have : ¬ k < xs.length := by simpa using h
    have : k = xs.length := by omega
    subst this
    refine WS.nil ?_
    refine WS.cons (WS.while_ (fun m σ' => σ' = sigJ xs st a xs.length) 0 rfl fun m σ' hI => ?_)
    subst hI
    refine ⟨false, (EvT.cmp (EvE.name hF (i := 4) rfl rfl) (EvE.name hF (i := 5) rfl rfl) OpB.lt_int).to (by simp), (fun h => absurd h Bool.false_ne_true), fun _ => WS.nil ?_⟩
    refine WS.cons (WS.assert ((EvT.cmp (EvE.name hF (i := 4) rfl rfl) (EvE.name hF (i := 5) rfl rfl) OpB.eq_int).to (by simp)) ?_)
    refine WS.cons (WS.freeze (i := 2) rfl (WS.assign hF (i := 2) (d := .str (Str.join "" xs)) rfl (EvE.strJoin EvE.str (EvE.name (d := .list (sL xs)) hF (i := 2) rfl (by rw [List.take_length]; rfl)) (by show _ + xs.length * 0 ≤ _; omega)) ?_))
    refine WS.cons (WS.ret (EvE.fstr3 (EvE.name hF (i := 2) rfl rfl) (by show 4 + _ + 3 ≤ _; omega)) rfl)
end
end Mine
namespace Mine
open MineP
section
variable {X : Wd}
noncomputable abbrev layT : List (Str × Bool) := [("pat", false), ("STAR", false), ("QUESTION_MARK", false), ("res", false), ("add", false), ("i", false), ("n", false), ("c", false), ("j", false), ("stuff", false), ("chunks", false), ("k", false), ("chunk", false)]
noncomputable abbrev globT : List Str := ["len", "escape", "range", "_twin_re_1"]
noncomputable abbrev CT (g : Sg) : Cx := Bd 31 layT globT g
/-- what a turn leaves behind: data, or nothing -/
noncomputable abbrev sigT (x : Str) (st a : Addr) (rs : List Str) (k : Nat) (o7 o8 o9 o10 o11 o12 : Option D) : Sig :=
  [some (.val (.str x)), some (.val (.obj st)), some (.val (.str ".")), some (.own a (sL rs)), some (.app a), some (.val (.int k)), some (.val (.int x.length)), ov o7, ov o8, ov o9, ov o10, ov o11, ov o12]
theorem noRo_T {x : Str} {st a : Addr} {rs : List Str} {k : Nat} {o7 o8 o9 o10 o11 o12 : Option D} : NoRo (sigT x st a rs k o7 o8 o9 o10 o11 o12) := by
  intro j a' es e
  unfold sigT at e
  have nv : ∀ {o : Option D}, ov o ≠ some (.ro a' es) := fun {o} => by cases o <;> exact fun q => by cases q
  match j with
  | 0 | 1 | 2 | 3 | 4 | 5 | 6 => cases e
  | 7 => exact nv (Option.some.inj e)
  | 8 => exact nv (Option.some.inj e)
  | 9 => exact nv (Option.some.inj e)
  | 10 => exact nv (Option.some.inj e)
  | 11 => exact nv (Option.some.inj e)
  | 12 => exact nv (Option.some.inj e)
  | j + 13 => cases e
theorem turn_one {g : Sg} (hP : Pg g.X) (hn : 1 ≤ g.n) (hF : FmOk (CT g).F) (x : Str) (st a : Addr) (rs : List Str) (k c : Nat) (o7 o8 o9 o10 o11 o12 : Option D) (hx : x.length ≤ 1000) (hr : rs.length ≤ 100) (hc : x.cps[k]? = some c) (hl : c = 45 ∨ c ∈ lettersL) :
    WS (CT g) (sigT x st a rs k o7 o8 o9 o10 o11 o12) (execs (whileBody 31 3) (CT g).env) (fun df σ' => df = .next ∧ ∃ o7 o8 o9 o10 o11 o12, σ' = sigT x st a (rs ++ [strOf (escL c)]) (k + 1) o7 o8 o9 o10 o11 o12) := by
  have hk : k < x.length := (Array.getElem?_eq_some_iff.mp hc).1
  have ne : c ≠ 42 ∧ c ≠ 63 ∧ c ≠ 91 := by
    rcases hl with rfl | h
    · decide
    · have := List.all_eq_true.mp (show (lettersL.all fun c => decide (c ≠ 42 ∧ c ≠ 63 ∧ c ≠ 91)) = true by decide) c h
      simpa using this
  have tst : ∀ {σ : Sig} {d : Nat} {s : Str} {p t u : Pos} {kk : Nat}, σ[7]? = some (some (.val (.str (ch c)))) → s.cps.toList = [d] → c ≠ d → EvT (CT g) σ (.Compare (.Name "c" p) [.Eq] [.Constant (.str s) kk t] u) false := fun h7 hs hd =>
    (EvT.cmp (EvE.name hF (i := 7) rfl h7) EvE.str OpB.eq_str (by rfl)).to (by rw [hs]; simp [hd])
  refine WS.cons (WS.assign hF (i := 7) rfl (EvE.item_str (EvE.name hF (i := 0) rfl rfl) (EvE.name hF (i := 5) rfl rfl) (by omega) (by omega) (c := c) (by simpa using hc)) ?_)
  refine WS.cons (WS.assign hF (i := 5) rfl (EvE.bin (EvE.name hF (i := 5) rfl rfl) EvE.int (OpB.add_nat (b := 1))) ?_)
  refine WS.cons (WS.if_f (tst (d := 42) rfl rfl ne.1) ?_)
  refine WS.cons (WS.if_f (tst (d := 63) rfl rfl ne.2.1) ?_)
  refine WS.cons (WS.if_f (tst (d := 91) rfl rfl ne.2.2) ?_)
  refine WS.cons (WS.callApp hF (i := 3) (j := 4) rfl rfl rfl rfl (noRo_T (k := k + 1) (o7 := some (.str (ch c)))) (EvE.def_ hP.x hF hP.f_escape (m := 1) hn (fn_escape hP c hl) (.cons (EvE.name hF (i := 7) rfl rfl) .nil rfl)) (sz50 (by simp; omega)) ?_)
  refine WS.nil (WS.nil (WS.nil (WS.nil ⟨rfl, some (.str (ch c)), o8, o9, o10, o11, o12, ?_⟩)))
  rw [sL_snoc]; rfl
end
end Mine
namespace Mine
open MineP
section
variable {X : Wd}
noncomputable def getElse : Stmt → List Stmt | .If _ _ o _ => o | _ => []
noncomputable def getBody : Stmt → List Stmt | .If _ b _ _ => b | _ => []
noncomputable def nthS (l : List Stmt) (k : Nat) : Stmt := (l[k]?).getD (.Pass default)
/-- what stands under `c == '['` -/
noncomputable def brBody : List Stmt := getBody (nthS (getElse (nthS (getElse (nthS (whileBody 31 3) 2)) 0)) 0)
/-- what stands there once the bracket's end is found -/
noncomputable def brIn : List Stmt := getElse (nthS brBody 4)
/-- from `[` on to the sign that closes it -/
theorem turn_open {g : Sg} (hP : Pg g.X) (hF : FmOk (CT g).F) (x : Str) (st a : Addr) (rs : List Str) (k : Nat) (mid : List Nat) (o7 o8 o9 o10 o11 o12 : Option D) (hx : x.length ≤ 1000) (hc : x.cps[k]? = some 91)
    (hm : ∀ t c, mid[t]? = some c → x.cps[k + 1 + t]? = some c) (hz : x.cps[k + 1 + mid.length]? = some 93) (h93 : ∀ c ∈ mid, c ≠ 93) (h33 : ∀ c, mid[0]? = some c → c ≠ 33) (h0 : 0 < mid.length) {R : Sig → Prop}
    (kont : WS (CT g) (sigT x st a rs (k + 1) (some (.str (ch 91))) (some (.int ((k + 1 + mid.length : Nat) : Int))) o9 o10 o11 o12) (execs brIn (CT g).env) fun df σ' => df = .next ∧ R σ') :
    WS (CT g) (sigT x st a rs k o7 o8 o9 o10 o11 o12) (execs (whileBody 31 3) (CT g).env) (fun df σ' => df = .next ∧ R σ') := by
  have hk : k + 1 + mid.length < x.length := (Array.getElem?_eq_some_iff.mp hz).1
  have tst : ∀ {σ : Sig} {d : Nat} {s : Str} {p t u : Pos} {kk : Nat}, σ[7]? = some (some (.val (.str (ch 91)))) → s.cps.toList = [d] → EvT (CT g) σ (.Compare (.Name "c" p) [.Eq] [.Constant (.str s) kk t] u) (91 == d) := fun h7 hs =>
    (EvT.cmp (EvE.name hF (i := 7) rfl h7) EvE.str OpB.eq_str (by rfl)).to (by rw [hs]; simp)
  refine WS.cons (WS.assign hF (i := 7) rfl (EvE.item_str (EvE.name hF (i := 0) rfl rfl) (EvE.name hF (i := 5) rfl rfl) (by omega) (by omega) (c := 91) (by simpa using hc)) ?_)
  refine WS.cons (WS.assign hF (i := 5) rfl (EvE.bin (EvE.name hF (i := 5) rfl rfl) EvE.int (OpB.add_nat (b := 1))) ?_)
  refine WS.cons (WS.if_f (tst (d := 42) rfl rfl) ?_)
  refine WS.cons (WS.if_f (tst (d := 63) rfl rfl) ?_)
  refine WS.cons (WS.if_t (tst (d := 91) rfl rfl) ?_)
  refine WS.cons (WS.assign hF (i := 8) rfl (EvE.name hF (i := 5) rfl rfl) ?_)
  have at0 : ∀ t c, mid[t]? = some c → t < mid.length := fun t c h => (List.getElem?_eq_some_iff.mp h).1
  have h00 : mid[0]? = some mid[0] := List.getElem?_eq_getElem h0
  refine WS.cons (WS.if_f ((EvT.and2 ((EvT.cmp (EvE.name hF (i := 8) rfl rfl) (EvE.name hF (i := 6) rfl rfl) OpB.lt_int)) fun _ => (EvT.cmp (EvE.item_str (EvE.name hF (i := 0) rfl rfl) (EvE.name hF (i := 8) rfl rfl) (by omega) (by omega) (c := mid[0]) (by simpa using hm 0 _ h00)) EvE.str OpB.eq_str (by rfl))).to (by have := h33 _ h00; rw [show (Str.ofString "!").cps.toList = [33] from rfl]; simp; intro _; exact this)) ?_)
  refine WS.nil ?_
  refine WS.cons (WS.if_f ((EvT.and2 ((EvT.cmp (EvE.name hF (i := 8) rfl rfl) (EvE.name hF (i := 6) rfl rfl) OpB.lt_int)) fun _ => (EvT.cmp (EvE.item_str (EvE.name hF (i := 0) rfl rfl) (EvE.name hF (i := 8) rfl rfl) (by omega) (by omega) (c := mid[0]) (by simpa using hm 0 _ h00)) EvE.str OpB.eq_str (by rfl))).to (by have := h93 _ (List.getElem_mem h0); rw [show (Str.ofString "]").cps.toList = [93] from rfl]; simp; intro _; exact this)) ?_)
  refine WS.nil ?_
  refine WS.cons (WS.while_ (fun m σ' => ∃ t, m = mid.length - t ∧ t ≤ mid.length ∧ σ' = sigT x st a rs (k + 1) (some (.str (ch 91))) (some (.int ((k + 1 + t : Nat) : Int))) o9 o10 o11 o12) mid.length ⟨0, rfl, Nat.zero_le _, rfl⟩ fun m σ' hI => ?_)
  obtain ⟨t, rfl, ht, rfl⟩ := hI
  have ex : ∃ c, x.cps[k + 1 + t]? = some c ∧ (c != 93) = decide (t < mid.length) := by
    rcases Nat.lt_or_ge t mid.length with h | h
    · exact ⟨mid[t], hm t _ (List.getElem?_eq_getElem h), by have := h93 _ (List.getElem_mem h); simp [h, this]⟩
    · have : t = mid.length := by omega
      subst this
      exact ⟨93, hz, by simp⟩
  obtain ⟨c, ec, dc⟩ := ex
  refine ⟨decide (t < mid.length), (EvT.and2 ((EvT.cmp (EvE.name hF (i := 8) rfl rfl) (EvE.name hF (i := 6) rfl rfl) OpB.lt_int)) fun _ => (EvT.cmp (EvE.item_str (EvE.name hF (i := 0) rfl rfl) (EvE.name hF (i := 8) rfl rfl) (by omega) (by omega) (c := c) (by rw [Int.toNat_natCast]; exact ec)) EvE.str OpB.ne_str (by rfl))).to ?_, fun h => ?_, fun h => ?_⟩
  · rw [← dc, show (Str.ofString "]").cps.toList = [93] from rfl]
    have h : ((k + 1 + t : Nat) : Int) < (x.length : Int) := by omega
    rw [decide_eq_true h, Bool.true_and]
    by_cases q : c = 93
    · subst q; rfl
    · have e : ((ch c).cps.toList == [93]) = false := by show ([c] == [93]) = false; simp [q]
      show (!((ch c).cps.toList == [93])) = _
      rw [e, bne, beq_false_of_ne q]
  · have hlt : t < mid.length := by simpa using h
    refine WS.cons (WS.assign hF (i := 8) rfl (EvE.bin (EvE.name hF (i := 8) rfl rfl) EvE.int (OpB.add_nat (b := 1))) ?_)
    exact WS.nil ⟨mid.length - (t + 1), by omega, t + 1, rfl, hlt, rfl⟩
  · have : ¬ t < mid.length := by simpa using h
    have : t = mid.length := by omega
    subst this
    refine WS.nil ?_
    refine WS.cons (WS.if_f ((EvT.cmp (EvE.name hF (i := 8) rfl rfl) (EvE.name hF (i := 6) rfl rfl) OpB.ge_int).to (by simp; omega)) ?_)
    refine WS.mono (show WS _ _ (execs brIn _) _ from kont) fun df σ' h => ?_
    obtain ⟨rfl, h⟩ := h
    exact WS.nil (WS.nil (WS.nil (WS.nil ⟨rfl, h⟩)))
end
end Mine
namespace Mine
open MineP
section
variable {X : Wd}
theorem dens_are {W : List Addr} {h : Heap} : ∀ {vs : List Value} {xs : List Str}, Dens W h vs (sL xs) → StrsAre vs xs
  | [], [], _ => .nil
  | [], _ :: _, r => nomatch r
  | _ :: _, [], r => nomatch r
  | _ :: _, y :: ys, .cons r rs => by cases r; exact .cons _ _ (dens_are rs)
theorem OpB.in_strs {C : Cx} {σ : Sig} {x : Str} {ys : List Str} : OpB C σ (compareOp .In) (.str x) (.tuple (sL ys)) (.bool (ys.any (· == x))) := fun A s Q va vb hA O da db hQ => by
  cases da; cases db with
  | tuple _ l r =>
  obtain ⟨o, ho, hc, n, hd⟩ := l
  exact in_tuple_strs ⟨o, ho, hc, n, hd⟩ (dens_are r) (hQ _ s (Ext.refl _ _) O (.bool _))
/-- the text's piece -/
theorem cut_mid {x : Str} {lo : Nat} {mid : List Nat} (hm : ∀ t c, mid[t]? = some c → x.cps[lo + t]? = some c) (hl : lo + mid.length ≤ x.length) : cut x (some (lo : Int)) (some ((lo + mid.length : Nat) : Int)) = strOf mid := by
  have e : cutL x.cps.toList (some (lo : Int)) (some ((lo + mid.length : Nat) : Int)) = mid := by
    have hL : x.cps.toList.length = x.length := by simp; rfl
    have e1 : kms_lo (some (lo : Int)) x.cps.toList.length = lo := by
      simp only [kms_lo]; split <;> omega
    have e2 : kms_hi (some ((lo + mid.length : Nat) : Int)) x.cps.toList.length = lo + mid.length := by
      simp only [kms_hi]; split <;> omega
    unfold cutL
    rw [e1, e2, Nat.add_sub_cancel_left]
    apply List.ext_getElem?
    intro t
    rw [List.getElem?_take, List.getElem?_drop]
    split
    · rename_i h
      rw [Array.getElem?_toList, hm t _ (List.getElem?_eq_getElem h), List.getElem?_eq_getElem h]
    · rename_i h
      rw [List.getElem?_eq_none (by omega)]
  unfold cut; rw [e]; rfl
/-- what a bracket's stuff is turned to -/
theorem turn_q {g : Sg} (hP : Pg g.X) (hn : 1 ≤ g.n) (hcd : g.cd = .ref 108) (hF : FmOk (CT g).F) (x : Str) (st a : Addr) (rs : List Str) (k : Nat) (o7 o8 o9 o10 o11 o12 : Option D) (hx : x.length ≤ 1000) (hr : rs.length ≤ 100)
    (h1 : x.cps[k]? = some 91) (h2 : x.cps[k + 1]? = some 63) (h3 : x.cps[k + 2]? = some 93) :
    WS (CT g) (sigT x st a rs k o7 o8 o9 o10 o11 o12) (execs (whileBody 31 3) (CT g).env) (fun df σ' => df = .next ∧ ∃ o7 o8 o9 o10 o11 o12, σ' = sigT x st a (rs ++ [strOf [91, 63, 93]]) (k + 3) o7 o8 o9 o10 o11 o12) := by
  have hm : ∀ t c, ([63] : List Nat)[t]? = some c → x.cps[k + 1 + t]? = some c := fun t c h => by
    match t with
    | 0 => cases h; exact h2
    | t + 1 => cases h
  have hk : k + 2 < x.length := (Array.getElem?_eq_some_iff.mp h3).1
  refine turn_open hP hF x st a rs k [63] o7 o8 o9 o10 o11 o12 hx h1 hm h3 (by decide) (fun c h => by cases h; decide) (by decide) ?_
  refine WS.cons (WS.assign hF (i := 9) rfl (EvE.slice (EvE.name hF (i := 0) rfl rfl) (.some (EvE.name hF (i := 5) rfl rfl)) (.some (EvE.name hF (i := 8) rfl rfl)) (sz50 hx)) ?_)
  rw [cut_mid (lo := k + 1) hm (by show k + 1 + 1 ≤ _; omega)]
  refine WS.cons (WS.if_t ((EvT.cmp EvE.str (EvE.name hF (i := 9) rfl rfl) OpB.notIn_one).to (by rfl)) ?_)
  refine WS.cons (WS.assign hF (i := 9) rfl (EvE.meth (d := .str (strOf [63])) (EvE.name hF (i := 9) rfl rfl) ⟨rfl, rfl⟩ F.plainAttrs_str F.slot_str_replace F.type_str_replace (.cons EvE.str (.cons EvE.str .nil rfl) rfl) (OpC.replace_none (occ_none_of (by decide) _))) ?_)
  refine WS.nil ?_
  refine WS.cons (WS.assign hF (i := 9) rfl (EvE.reSub (C := CT g) hP.x (by show Maker g.X g.cd; rw [hcd]; exact hP.maker) rfl hP.t_re.2 (EvV.glob hP.x hF (show _ ∈ globT by decide) hP.t_re.1) (EvE.name hF (i := 9) rfl rfl) (by decide +kernel) (by decide) (by decide)) ?_)
  refine WS.cons (WS.assign hF (i := 5) rfl (EvE.bin (EvE.name hF (i := 8) rfl rfl) EvE.int (OpB.add_nat (b := 1))) ?_)
  refine WS.cons (WS.if_f ((EvT.not (EvT.val (c := true) (EvE.name hF (i := 9) rfl rfl) rfl (fun _ e => by cases e; decide))).to rfl) ?_)
  refine WS.cons (WS.if_f ((EvT.cmp (EvE.name hF (i := 9) rfl rfl) EvE.str OpB.eq_str).to rfl) ?_)
  refine WS.cons (WS.if_f ((EvT.cmp (EvE.item_str (EvE.name hF (i := 9) rfl rfl) EvE.int (by omega) (by omega) (c := 63) rfl) EvE.str OpB.eq_str).to rfl) ?_)
  refine WS.cons (WS.if_f ((EvT.cmp (EvE.item_str (EvE.name hF (i := 9) rfl rfl) EvE.int (by omega) (by omega) (c := 63) rfl) (EvE.tuple (.cons EvE.str (.cons EvE.str .nil rfl) rfl) (le_size rfl)) (OpB.in_strs (ys := ["^", "["]))).to (by decide)) ?_)
  refine WS.nil (WS.nil ?_)
  refine WS.cons (WS.callApp hF (i := 3) (j := 4) rfl rfl rfl rfl (noRo_T (x := x) (k := k + 2 + 1) (rs := rs) (st := st) (a := a) (o7 := some (.str (ch 91))) (o8 := some (.int ((k + 1 + 1 : Nat) : Int))) (o9 := some (.str (strOf [63])))) (EvE.fstr3 (EvE.name hF (i := 9) rfl rfl) (by decide)) (sz50 (by simp; omega)) ?_)
  refine WS.nil (WS.nil (WS.nil ⟨rfl, some (.str (ch 91)), some (.int ((k + 1 + 1 : Nat) : Int)), some (.str (strOf [63])), o10, o11, o12, ?_⟩))
  rw [sL_snoc]; rfl
end
end Mine
namespace Mine
open MineP
section
variable {X : Wd}
noncomputable abbrev escDL (c : Nat) : List Nat := if c = 45 then [92, 45] else [c]
noncomputable abbrev sigC (x : Str) (st a : Addr) (rs : List Str) (i j : Nat) (sf : Str) (ac : Addr) (cs : List Str) (k : Int) (o12 : Option D) : Sig :=
  [some (.val (.str x)), some (.val (.obj st)), some (.val (.str ".")), some (.own a (sL rs)), some (.app a), some (.val (.int i)), some (.val (.int x.length)), some (.val (.str (ch 91))), some (.val (.int j)), some (.val (.str sf)), some (.own ac (sL cs)), some (.val (.int k)), ov o12]
theorem noRo_C {x : Str} {st a : Addr} {rs : List Str} {i j : Nat} {sf : Str} {ac : Addr} {cs : List Str} {k : Int} {o12 : Option D} : NoRo (sigC x st a rs i j sf ac cs k o12) := by
  cases o12 <;> exact noRo_of rfl
theorem escD_len (e : Nat) : (escD e).length ≤ 2 := by
  unfold escD; split
  · decide
  · show 1 ≤ 2; decide
theorem join_small (f : Str → Str) (h : ∀ s, (f s).length ≤ 2) (c d : Str) : (([c, d].map f).map (·.length)).sum + ([c, d].map f).length * ("-" : Str).length ≤ 16777216 := by
  have := h c; have := h d
  show (f c).length + ((f d).length + 0) + 2 * 1 ≤ _
  omega
theorem no_caret {c : Nat} (h : c ≠ 94) (h' : c ≠ 91) : (([("^" : Str), "["] : List Str).any (· == (⟨#[c]⟩ : Str))) = false := by
  have k : ∀ e : Nat, c ≠ e → ((⟨#[e]⟩ : Str) == (⟨#[c]⟩ : Str)) = false := fun e he => by
    apply beq_false_of_ne
    intro q
    have : ([e] : List Nat) = [c] := congrArg (fun s : Str => s.cps.toList) q
    cases this; exact he rfl
  show (((⟨#[94]⟩ : Str) == (⟨#[c]⟩ : Str)) || ((⟨#[91]⟩ : Str) == (⟨#[c]⟩ : Str) || false)) = false
  rw [k 94 h, k 91 h']; rfl
theorem turn_r {g : Sg} (hP : Pg g.X) (hn : 1 ≤ g.n) (hcd : g.cd = .ref 108) (hF : FmOk (CT g).F) (x : Str) (st a : Addr) (rs : List Str) (k c d : Nat) (o7 o8 o9 o10 o11 o12 : Option D) (hx : x.length ≤ 1000) (hr : rs.length ≤ 100)
    (h1 : x.cps[k]? = some 91) (h2 : x.cps[k + 1]? = some c) (h3 : x.cps[k + 2]? = some 45) (h4 : x.cps[k + 3]? = some d) (h5 : x.cps[k + 4]? = some 93) (hc : c ≠ 33 ∧ c ≠ 91 ∧ c ≠ 92 ∧ c ≠ 93 ∧ c ≠ 94) (hd : d ≠ 92 ∧ d ≠ 93 ∧ d ≠ 45) (hcd' : c < d) (hh : noHit (escDL c ++ [45, d]) = true) :
    WS (CT g) (sigT x st a rs k o7 o8 o9 o10 o11 o12) (execs (whileBody 31 3) (CT g).env) (fun df σ' => df = .next ∧ ∃ o7 o8 o9 o10 o11 o12, σ' = sigT x st a (rs ++ [strOf ([91] ++ escDL c ++ [45, d, 93])]) (k + 5) o7 o8 o9 o10 o11 o12) := by
  have hm : ∀ t e, ([c, 45, d] : List Nat)[t]? = some e → x.cps[k + 1 + t]? = some e := fun t e h => by
    match t with
    | 0 => cases h; exact h2
    | 1 => cases h; exact h3
    | 2 => cases h; exact h4
    | t + 3 => cases h
  have hk : k + 4 < x.length := (Array.getElem?_eq_some_iff.mp h5).1
  refine turn_open hP hF x st a rs k [c, 45, d] o7 o8 o9 o10 o11 o12 hx h1 hm h5 (by simp; exact ⟨hc.2.2.2.1, hd.2.1⟩) (fun e h => by cases h; exact hc.1) (by simp) ?_
  refine WS.cons (WS.assign hF (i := 9) rfl (EvE.slice (EvE.name hF (i := 0) rfl rfl) (.some (EvE.name hF (i := 5) rfl rfl)) (.some (EvE.name hF (i := 8) rfl rfl)) (sz50 hx)) ?_)
  rw [cut_mid (lo := k + 1) hm (by show k + 1 + 3 ≤ _; omega)]
  refine WS.cons (WS.if_f ((EvT.cmp EvE.str (EvE.name hF (i := 9) rfl rfl) OpB.notIn_one).to (by simp [strOf])) ?_)
  refine WS.cons (WS.assign_own hF (i := 10) rfl (EvN.list .nil (le_size rfl)) fun ac => ?_)
  refine WS.cons (WS.assign hF (i := 11) rfl (EvE.ifexp_f ((EvT.cmp (EvE.item_str (EvE.name hF (i := 0) rfl rfl) (EvE.name hF (i := 5) rfl rfl) (by omega) (by omega) (c := c) (by simpa using h2)) EvE.str OpB.eq_str (by rfl)).to (by show ([c] == [33]) = false; simp [hc.1])) (EvE.bin (EvE.name hF (i := 5) rfl rfl) EvE.int (OpB.add_nat (b := 1)))) ?_)
  refine WS.cons (WS.while_ (fun m σ' => (m = 1 ∧ σ' = sigC x st a rs (k + 1) (k + 4) (strOf [c, 45, d]) ac [] ((k + 2 : Nat) : Int) o12) ∨ (m = 0 ∧ σ' = sigC x st a rs (k + 3) (k + 4) (strOf [c, 45, d]) ac [ch c] ((k + 5 : Nat) : Int) o12)) 1 (.inl ⟨rfl, rfl⟩) fun m σ' hI => ⟨true, EvT.val EvE.bool rfl (fun _ e => nomatch e), fun _ => ?_, fun h => nomatch h⟩)
  have e1 : cut x (some ((k + 1 : Nat) : Int)) (some ((k + 2 : Nat) : Int)) = ch c := cut_mid (lo := k + 1) (mid := [c]) (fun t e h => by
    match t with
    | 0 => cases h; exact h2
    | t + 1 => cases h) (by show k + 1 + 1 ≤ _; omega)
  have e2 : cut x (some ((k + 3 : Nat) : Int)) (some ((k + 4 : Nat) : Int)) = ch d := cut_mid (lo := k + 3) (mid := [d]) (fun t e h => by
    match t with
    | 0 => cases h; exact h4
    | t + 1 => cases h) (by show k + 3 + 1 ≤ _; omega)
  rcases hI with ⟨rfl, rfl⟩ | ⟨rfl, rfl⟩
  · refine WS.cons (WS.assign hF (i := 11) rfl ((EvE.meth (EvE.name hF (i := 0) rfl rfl) ⟨rfl, rfl⟩ F.plainAttrs_str F.slot_str_find F.type_str_find (.cons EvE.str (.cons (EvE.name hF (i := 11) rfl rfl) (.cons (EvE.name hF (i := 8) rfl rfl) .nil rfl) rfl) rfl) (OpC.find4 (by omega))).to (d' := .int ((k + 2 : Nat) : Int)) (by rw [show ("-" : Str) = ⟨#[45]⟩ from rfl, occ_first (by omega) h3])) ?_)
    refine WS.cons (WS.if_f ((EvT.cmp (EvE.name hF (i := 11) rfl rfl) EvE.int OpB.lt_int).to (by simp; omega)) (WS.nil ?_))
    refine WS.cons (WS.append hF (i := 10) rfl rfl (noRo_C (i := k + 1) (k := ((k + 2 : Nat) : Int)) (cs := [])) ((EvE.slice (EvE.name hF (i := 0) rfl rfl) (.some (EvE.name hF (i := 5) rfl rfl)) (.some (EvE.name hF (i := 11) rfl rfl)) (sz50 hx)).to (d' := .str (ch c)) (by rw [e1])) (sz50 (by simp)) ?_)
    refine WS.cons (WS.assign hF (i := 5) rfl (EvE.bin (EvE.name hF (i := 11) rfl rfl) EvE.int (OpB.add_nat (b := 1))) ?_)
    refine WS.cons (WS.assign hF (i := 11) rfl (EvE.bin (EvE.name hF (i := 11) rfl rfl) EvE.int (OpB.add_nat (b := 3))) ?_)
    exact WS.nil ⟨0, by decide, .inr ⟨rfl, rfl⟩⟩
  · refine WS.cons (WS.assign hF (i := 11) rfl ((EvE.meth (EvE.name hF (i := 0) rfl rfl) ⟨rfl, rfl⟩ F.plainAttrs_str F.slot_str_find F.type_str_find (.cons EvE.str (.cons (EvE.name hF (i := 11) rfl rfl) (.cons (EvE.name hF (i := 8) rfl rfl) .nil rfl) rfl) rfl) (OpC.find4 (by omega))).to (d' := .int (-1)) (by rw [show ("-" : Str) = ⟨#[45]⟩ from rfl, occ_past (by omega)])) ?_)
    refine WS.cons (WS.if_t ((EvT.cmp (EvE.name hF (i := 11) rfl rfl) EvE.int OpB.lt_int).to (by rfl)) ?_)
    refine WS.cons (WS.brk ?_)
    refine WS.cons (WS.assign hF (i := 12) rfl ((EvE.slice (EvE.name hF (i := 0) rfl rfl) (.some (EvE.name hF (i := 5) rfl rfl)) (.some (EvE.name hF (i := 8) rfl rfl)) (sz50 hx)).to (d' := .str (ch d)) (by rw [e2])) ?_)
    refine WS.cons (WS.if_t (EvT.val (EvE.name hF (i := 12) rfl rfl) (by rfl) (fun _ e => by cases e; show 1 < 2 ^ 63; decide)) ?_)
    refine WS.cons (WS.append hF (i := 10) rfl rfl (noRo_C (i := k + 3) (k := -1) (cs := [ch c]) (o12 := some (.str (ch d)))) (EvE.name hF (i := 12) rfl rfl) (sz50 (by simp)) ?_)
    refine WS.nil ?_
    refine WS.freeze (i := 10) (ds := sL [ch c, ch d]) rfl ?_
    refine WS.cons (WS.for_ (N := 1) (fun n σ' => ∃ o11, σ' = sigT x st a rs (k + 3) (some (.str (ch 91))) (some (.int ((k + 4 : Nat) : Int))) (some (.str (strOf [c, 45, d]))) (some (.list (sL [ch c, ch d]))) o11 (some (.str (ch d)))) (EvIt.walk (ItW.range (a := 1) (b := 0) (c := -1) (EvR.call (EvV.bi hP.x hF hP.b_range) (.cons (EvE.bin (EvE.callV (EvV.bi hP.x hF hP.b_len) trivial (.cons (EvE.name (d := .list (sL [ch c, ch d])) hF (i := 10) rfl rfl) .nil rfl) (OpC.len_list (by show 2 < 2 ^ 63; decide))) EvE.int OpB.sub_int) (.cons EvE.int (.cons (EvE.neg EvE.int) .nil rfl) rfl) rfl) (OpR.range3 (by decide) (by show Builtin.divisionGoesByPylong (0 - (((2 : Nat) : Int) - 1)) (-1) = false; decide))) (by decide) (by decide)) (fun i _ => Asg.name hF (i := 11) rfl) (fun i => setTo_own 11 _)) ⟨some (.int (-1)), rfl⟩ (fun i σ' hi hI => ?_) fun σ' hI => ?_)
    · obtain ⟨o11, rfl⟩ := hI
      have : i = 0 := by omega
      subst this
      refine WS.cons (WS.if_f ((EvT.cmp (EvE.item_str_neg (EvE.item_list (EvE.l (EvE.name (d := .list (sL [ch c, ch d])) hF (i := 10) rfl rfl)) (EvE.bin (EvE.name hF (i := 11) rfl rfl) EvE.int OpB.sub_int) (by decide) (by decide) (d := .str (ch c)) (by rfl)) (EvE.neg EvE.int) (by decide) (by show -((1 : Nat) : Int) ≤ _; decide) (by show 1 < 2 ^ 60; decide) (c := c) (by rfl)) (EvE.item_str (EvE.item_list (EvE.l (EvE.name (d := .list (sL [ch c, ch d])) hF (i := 10) rfl rfl)) (EvE.name hF (i := 11) rfl rfl) (by decide) (by decide) (d := .str (ch d)) (by rfl)) EvE.int (by decide) (by decide) (c := d) (by rfl)) OpB.gt_str).to (by simp [List.cons_lt_cons_iff]; omega)) (WS.nil ?_))
      exact WS.nil ⟨some (.int (1 + ((0 : Nat) : Int) * -1)), rfl⟩
    · obtain ⟨o11, rfl⟩ := hI
      refine WS.nil ?_
      have hne : ch d ≠ ch c := fun q => by
        have : (ch d).cps.toList = (ch c).cps.toList := by rw [q]
        have : [d] = [c] := this
        cases this; omega
      have hjoin : D.str (Str.join "-" ([ch c, ch d].map fun s => if s = ch c then escD c else escD d)) = .str (strOf (escDL c ++ [45, d])) := by
        have e1 : escD c = strOf (escDL c) := by unfold escD escDL; split <;> rfl
        have e2 : escD d = strOf [d] := by unfold escD; rw [if_neg hd.2.2]; rfl
        simp only [List.map_cons, List.map_nil, if_true, if_neg hne]
        congr 1
        show escD c ++ "-" ++ escD d = _
        rw [e1, e2, show ("-" : Str) = strOf [45] from rfl, strOf_app, strOf_app]; congr 1; simp
      refine WS.cons (WS.assign hF (i := 9) rfl ((EvE.joinGen (C := CT g) (xs := [ch c, ch d]) (fun s => if s = ch c then escD c else escD d) hP.x (by show Maker g.X g.cd; rw [hcd]; exact hP.maker) rfl (EvE.l (EvE.name (d := .list (sL [ch c, ch d])) hF (i := 10) rfl rfl)) rfl rfl (by decide) rfl rfl rfl (fun i L' code bi A' E' t s₂ m₂ hi hA' hn hm => ?_) (join_small _ (fun s => by split <;> exact escD_len _) _ _) (by simp)).to (d' := .str (strOf (escDL c ++ [45, d]))) hjoin) ?_)
      · have hdi : ∃ e, e ≠ 92 ∧ ([ch c, ch d] : List Str).getD i "" = ch e ∧ (if ([ch c, ch d] : List Str).getD i "" = ch c then escD c else escD d) = escD e := by
          match i, hi with
          | 0, _ => exact ⟨c, hc.2.2.1, rfl, if_pos rfl⟩
          | 1, _ => exact ⟨d, hd.1, rfl, if_neg hne⟩
        obtain ⟨e, he, eq1, eq2⟩ := hdi
        rw [eq2]
        rw [eq1] at hm
        refine raw_replace2 (c := e) he rfl rfl rfl (wpAny_Name ?_ rfl)
        exact wpAny_loadName_local rfl rfl hn hm ⟨t, rfl, fun t' tk => ⟨⟨t', rfl⟩, ⟨_, tk, rfl, fun _ _ e => e⟩⟩⟩
      refine WS.nil ?_
      have h0 : 0 < (escDL c ++ [45, d]).length := by simp
      have hlen : (escDL c ++ [45, d]).length ≤ 4 := by unfold escDL; split <;> simp
      have hlen' : (strOf (escDL c ++ [45, d])).length = (escDL c ++ [45, d]).length := by show (List.toArray _).size = _; simp
      refine WS.cons (WS.assign hF (i := 9) rfl (EvE.reSub (C := CT g) hP.x (by show Maker g.X g.cd; rw [hcd]; exact hP.maker) rfl hP.t_re.2 (EvV.glob hP.x hF (show _ ∈ globT by decide) hP.t_re.1) (EvE.name hF (i := 9) rfl rfl) (by simpa [strOf] using hh) (by show 0 < (strOf _).length; omega) (by show (strOf _).length ≤ _; omega)) ?_)
      refine WS.cons (WS.assign hF (i := 5) rfl (EvE.bin (EvE.name hF (i := 8) rfl rfl) EvE.int (OpB.add_nat (b := 1))) ?_)
      refine WS.cons (WS.if_f ((EvT.not (EvT.val (c := true) (EvE.name hF (i := 9) rfl rfl) (by show some ((strOf _).length != 0) = _; rw [hlen']; simp) (fun _ e => by cases e; rw [hlen']; omega))).to rfl) ?_)
      refine WS.cons (WS.if_f ((EvT.cmp (EvE.name hF (i := 9) rfl rfl) EvE.str OpB.eq_str).to (by show ((escDL c ++ [45, d]) == [33]) = false; unfold escDL; split <;> simp)) ?_)
      have hz : (strOf (escDL c ++ [45, d])).cps[0]? = some (if c = 45 then 92 else c) := by unfold strOf escDL; split <;> simp
      refine WS.cons (WS.if_f ((EvT.cmp (EvE.item_str (EvE.name hF (i := 9) rfl rfl) EvE.int (by omega) (by omega) (c := if c = 45 then 92 else c) hz) EvE.str OpB.eq_str).to (by show ([if c = 45 then 92 else c] == [33]) = false; split <;> simp [hc.1])) ?_)
      refine WS.cons (WS.if_f ((EvT.cmp (EvE.item_str (EvE.name hF (i := 9) rfl rfl) EvE.int (by omega) (by omega) (c := if c = 45 then 92 else c) hz) (EvE.tuple (.cons EvE.str (.cons EvE.str .nil rfl) rfl) (le_size rfl)) (OpB.in_strs (ys := ["^", "["]))).to (by rw [no_caret (c := if c = 45 then 92 else c) (by split; decide; exact hc.2.2.2.2) (by split; decide; exact hc.2.1)])) ?_)
      refine WS.nil (WS.nil ?_)
      refine WS.cons (WS.callApp hF (i := 3) (j := 4) rfl rfl rfl rfl (noRo_T (x := x) (k := k + 4 + 1) (rs := rs) (st := st) (a := a) (o7 := some (.str (ch 91))) (o8 := some (.int ((k + 4 : Nat) : Int))) (o9 := some (.str (strOf (escDL c ++ [45, d])))) (o10 := some (.list (sL [ch c, ch d]))) (o12 := some (.str (ch d)))) (EvE.fstr3 (EvE.name hF (i := 9) rfl rfl) (by rw [hlen']; show 1 + _ + 1 ≤ _; omega)) (sz50 (by simp; omega)) ?_)
      refine WS.nil (WS.nil (WS.nil ⟨rfl, some (.str (ch 91)), some (.int ((k + 4 : Nat) : Int)), some (.str (strOf (escDL c ++ [45, d]))), some (.list (sL [ch c, ch d])), o11, some (.str (ch d)), ?_⟩))
      have e : "[" ++ strOf (escDL c ++ [45, d]) ++ "]" = strOf ([91] ++ escDL c ++ [45, d, 93]) := by
        show strOf [91] ++ _ ++ strOf [93] = _
        rw [strOf_app, strOf_app]; congr 1; simp
      rw [sL_snoc, ← e]; rfl
end
end Mine
namespace Mine
open MineP
section
variable {X : Wd}
/-- the signs of a file's text -/
noncomputable def signsA : List Nat := 45 :: 63 :: lettersL
/-- what _translate answers at one place -/
noncomputable def outTok (a b : Nat) : List Nat := if a = b then (if a = 63 then [91, 63, 93] else escL a) else [91] ++ escDL (min a b) ++ [45, max a b, 93]
noncomputable def okPair (a b : Nat) : Bool := if a = b then (a == 63 || a == 45 || lettersL.contains a) else
  decide (min a b ≠ 33 ∧ min a b ≠ 91 ∧ min a b ≠ 92 ∧ min a b ≠ 93 ∧ min a b ≠ 94) && decide (max a b ≠ 92 ∧ max a b ≠ 93 ∧ max a b ≠ 45) && noHit (escDL (min a b) ++ [45, max a b])
theorem okPair_all : (signsA.all fun a => signsA.all fun b => okPair a b) = true := by decide +kernel
theorem turn_any {g : Sg} (hP : Pg g.X) (hn : 1 ≤ g.n) (hcd : g.cd = .ref 108) (hF : FmOk (CT g).F) (x : Str) (st a : Addr) (rs : List Str) (k c d : Nat) (o7 o8 o9 o10 o11 o12 : Option D) (hx : x.length ≤ 1000) (hr : rs.length ≤ 100) (hk : okPair c d = true)
    (hm : ∀ t e, (tokIn c d)[t]? = some e → x.cps[k + t]? = some e) :
    WS (CT g) (sigT x st a rs k o7 o8 o9 o10 o11 o12) (execs (whileBody 31 3) (CT g).env) (fun df σ' => df = .next ∧ ∃ o7 o8 o9 o10 o11 o12, σ' = sigT x st a (rs ++ [strOf (outTok c d)]) (k + (tokIn c d).length) o7 o8 o9 o10 o11 o12) := by
  unfold okPair at hk
  have rng : ∀ u v : Nat, tokIn c d = [91, u, 45, v, 93] → outTok c d = [91] ++ escDL u ++ [45, v, 93] → u < v → (u ≠ 33 ∧ u ≠ 91 ∧ u ≠ 92 ∧ u ≠ 93 ∧ u ≠ 94) → (v ≠ 92 ∧ v ≠ 93 ∧ v ≠ 45) → noHit (escDL u ++ [45, v]) = true → WS (CT g) (sigT x st a rs k o7 o8 o9 o10 o11 o12) (execs (whileBody 31 3) (CT g).env) (fun df σ' => df = .next ∧ ∃ o7 o8 o9 o10 o11 o12, σ' = sigT x st a (rs ++ [strOf (outTok c d)]) (k + (tokIn c d).length) o7 o8 o9 o10 o11 o12) := fun u v e1 e2 h1 h2 h3 h4 => by
    rw [e1] at hm ⊢
    rw [e2]
    exact turn_r hP hn hcd hF x st a rs k u v o7 o8 o9 o10 o11 o12 hx hr (hm 0 _ rfl) (hm 1 _ rfl) (hm 2 _ rfl) (hm 3 _ rfl) (hm 4 _ rfl) h2 h3 h1 h4
  by_cases h : c = d
  · subst h
    rw [if_pos rfl] at hk
    by_cases q : c = 63
    · subst q
      exact turn_q hP hn hcd hF x st a rs k o7 o8 o9 o10 o11 o12 hx hr (hm 0 _ rfl) (hm 1 _ rfl) (hm 2 _ rfl)
    · have e1 : tokIn c c = [c] := by unfold tokIn; rw [if_pos rfl, if_neg q]
      have e2 : outTok c c = escL c := by unfold outTok; rw [if_pos rfl, if_neg q]
      rw [e1] at hm ⊢
      rw [e2]
      exact turn_one hP hn hF x st a rs k c o7 o8 o9 o10 o11 o12 hx hr (hm 0 _ rfl) (by simpa [q] using hk)
  · rw [if_neg h] at hk
    simp only [Bool.and_eq_true, decide_eq_true_eq] at hk
    obtain ⟨⟨h1, h2⟩, h3⟩ := hk
    rcases Nat.lt_or_ge c d with l | l
    · rw [Nat.min_eq_left (by omega), Nat.max_eq_right (by omega)] at *
      exact rng c d (by unfold tokIn; rw [if_neg h, if_pos l]) (by unfold outTok; rw [if_neg h, Nat.min_eq_left (by omega), Nat.max_eq_right (by omega)]) l h1 h2 h3
    · rw [Nat.min_eq_right (by omega), Nat.max_eq_left (by omega)] at *
      exact rng d c (by unfold tokIn; rw [if_neg h, if_neg (by omega)]) (by unfold outTok; rw [if_neg h, Nat.min_eq_right (by omega), Nat.max_eq_left (by omega)]) (by omega) h1 h2 h3
noncomputable def outsL (x y : Str) (k : Nat) : List Str := (List.range k).map fun i => strOf (outTok (x.cps.getD i 0) (y.cps.getD i 0))
theorem patL_get (x y : Str) {j n : Nat} (hj : j < n) : ∀ t e, (tokIn (x.cps.getD j 0) (y.cps.getD j 0))[t]? = some e → (patL x y n)[(patL x y j).length + t]? = some e := fun t e h => by
  induction n with
  | zero => omega
  | succ n ih =>
    rw [patL_succ]
    rcases Nat.lt_or_ge j n with l | l
    · have := ih l
      rw [List.getElem?_append_left (List.getElem?_eq_some_iff.mp this).1]; exact this
    · have : j = n := by omega
      subst this
      rw [List.getElem?_append_right (by omega), Nat.add_sub_cancel_left]; exact h
theorem patL_mono (x y : Str) {j n : Nat} (hj : j ≤ n) : (patL x y j).length + (n - j) ≤ (patL x y n).length := by
  induction n with
  | zero => have : j = 0 := by omega
            subst this; simp
  | succ n ih =>
    rcases Nat.lt_or_ge j (n + 1) with l | l
    · rw [patL_succ, List.length_append]
      have := ih (by omega)
      have : 0 < (tokIn (x.cps.getD n 0) (y.cps.getD n 0)).length := by unfold tokIn; split <;> (try split) <;> simp
      omega
    · have : j = n + 1 := by omega
      subst this; simp
theorem fn_tr (hP : Pg X) {n : Nat} (x y : Str) (N : Nat) (st : Addr) (hN : N ≤ 10) (ok : ∀ j, j < N → okPair (x.cps.getD j 0) (y.cps.getD j 0) = true) : FnS X (n + 2) (.ref 109) [.str (strOf (patL x y N)), .obj st, .str "."] (.list (sL (outsL x y N))) := by
  refine FnS.bodyC (lay := layT) (glob := globT) (k := 10) hP.x hP.c_tr rfl (by decide +kernel) (by decide +kernel) rfl rfl fun g eX en ec hF => ?_
  subst eX
  have hlen : (strOf (patL x y N)).length = (patL x y N).length := by show (List.toArray _).size = _; simp
  have hx : (strOf (patL x y N)).length ≤ 50 := by rw [hlen]; have := patL_len x y N; omega
  refine WS.cons (WS.assign_own hF (i := 3) rfl (EvN.list .nil (le_size rfl)) fun a => ?_)
  refine WS.cons (WS.bindApp hF (i := 3) (j := 4) rfl rfl rfl ?_)
  refine WS.cons (WS.unpackS hF (names := ["i", "n"]) (is := [6, 5]) (ds := [.int ((0 : Nat) : Int), .int (strOf (patL x y N)).length]) rfl (EvU.tuple (EvE.tuple (.cons EvE.int (.cons (EvE.callV (EvV.bi hP.x hF hP.b_len) trivial (.cons (EvE.name hF (i := 0) rfl rfl) .nil rfl) (OpC.len_str (by omega))) .nil rfl) rfl) (le_size rfl))) (.bindN rfl (.bindN rfl .nil)) rfl rfl ?_)
  refine WS.cons (WS.while_ (fun m σ' => ∃ k o7 o8 o9 o10 o11 o12, m = N - k ∧ k ≤ N ∧ σ' = sigT (strOf (patL x y N)) st a (outsL x y k) (patL x y k).length o7 o8 o9 o10 o11 o12) N ⟨0, none, none, none, none, none, none, rfl, Nat.zero_le _, rfl⟩ fun m σ' hI => ?_)
  obtain ⟨k, o7, o8, o9, o10, o11, o12, rfl, hk, rfl⟩ := hI
  have hmono := patL_mono x y hk
  refine ⟨decide (k < N), (EvT.cmp (EvE.name hF (i := 5) rfl rfl) (EvE.name hF (i := 6) rfl rfl) OpB.lt_int).to ?_, fun h => ?_, fun h => ?_⟩
  · rw [hlen, decide_eq_decide]
    constructor
    · intro h
      rcases Nat.lt_or_ge k N with l | l
      · exact l
      · have : k = N := by omega
        subst this; omega
    · intro h; omega
  · have hlt : k < N := by simpa using h
    refine WS.mono (turn_any hP (by omega) ec hF (strOf (patL x y N)) st a (outsL x y k) (patL x y k).length (x.cps.getD k 0) (y.cps.getD k 0) o7 o8 o9 o10 o11 o12 (by omega) (by unfold outsL; simp; omega) (ok k hlt) (fun t e h => by have := patL_get x y hlt t e h; simpa [strOf] using this)) fun df σ' h => ?_
    obtain ⟨rfl, p7, p8, p9, p10, p11, p12, rfl⟩ := h
    refine ⟨N - (k + 1), by omega, k + 1, p7, p8, p9, p10, p11, p12, rfl, hlt, ?_⟩
    have e1 : outsL x y (k + 1) = outsL x y k ++ [strOf (outTok (x.cps.getD k 0) (y.cps.getD k 0))] := by unfold outsL; rw [List.range_succ, List.map_append]; rfl
    rw [e1, patL_succ, List.length_append]
  · have : ¬ k < N := by simpa using h
    have : k = N := by omega
    subst this
    refine WS.nil ?_
    refine WS.cons (WS.assert ((EvT.cmp (EvE.name hF (i := 5) rfl rfl) (EvE.name hF (i := 6) rfl rfl) OpB.eq_int).to (by rw [hlen]; simp)) ?_)
    refine WS.freeze (i := 3) rfl (WS.cons (WS.ret (EvE.name (d := .list (sL (outsL x y k))) hF (i := 3) rfl rfl) rfl))
end
end Mine
namespace Mine
open MineP
section
variable {X : Wd}
noncomputable def outL (x y : Str) (k : Nat) : List Nat := (List.range k).flatMap fun i => outTok (x.cps.getD i 0) (y.cps.getD i 0)
theorem fn_translate (hP : Pg X) {n : Nat} (x y : Str) (N : Nat) (hN : N ≤ 10) (ok : ∀ j, j < N → okPair (x.cps.getD j 0) (y.cps.getD j 0) = true)
    (hs : ((outsL x y N).map (·.length)).sum ≤ 900) (hj : (Str.join "" (outsL x y N)).length ≤ 900) :
    FnS X (n + 3) (.ref 90) [.str (strOf (patL x y N))] (.str ("(?s:" ++ Str.join "" (outsL x y N) ++ ")\\Z")) := by
  refine FnS.body (lay := [("pat", false), ("STAR", false), ("parts", false)]) (glob := ["object", "_translate", "_join_translated_parts"]) (k := 2) hP.x hP.f_translate.2 rfl (by decide +kernel) (by decide +kernel) rfl rfl fun g eX en hF => ?_
  subst eX
  refine WS.cons (WS.assign_obj hF (i := 1) rfl (EvV.bi hP.x hF hP.b_object) fun st => ?_)
  refine WS.cons (WS.assign hF (i := 2) rfl (EvE.def_ hP.x hF hP.f_tr (m := n + 2) (by show n + 2 ≤ g.n; omega) (fn_tr hP x y N st hN ok) (.cons (EvE.name hF (i := 0) rfl rfl) (.cons (EvE.name hF (i := 1) rfl rfl) (.cons EvE.str .nil rfl) rfl) rfl)) ?_)
  refine WS.cons (WS.ret (EvE.def_ hP.x hF hP.f_join (m := n + 1) (by show n + 1 ≤ g.n; omega) (fn_join hP (outsL x y N) st (by unfold outsL; simpa using hN) hs hj) (.cons (EvE.name hF (i := 2) rfl rfl) (.cons (EvE.name hF (i := 1) rfl rfl) .nil rfl) rfl)) rfl)
end
end Mine
namespace MineP
theorem compTurn_list_in (elt : Expr) (g1 : Comprehension) (target iter : Expr) (ifs : List Expr) (scope : Scope) (pos : Pos) (it acc : Value) (env : Env) :
    compTurn (.ListComp elt [g1, ⟨target, iter, ifs, 0⟩] scope pos) 1 it acc env = (do
      standAt iter.pos
      match ← pyNext it with
      | none => pure (.done .next)
      | some v =>
        letOwnedTupleGo target it v
        assign target env v
        let mut ok := true
        for c in ifs do
          if ok then ok ← isTrue c env (eval c env)
        if ok then
          (do let _ ← call (.builtin "list.append") [acc, ← eval elt env])
        again (.compLoop (.ListComp elt [g1, ⟨target, iter, ifs, 0⟩] scope pos) 1 it acc env)) := by rfl
theorem compTurn_list_out (elt : Expr) (t1 iter1 t2 iter2 : Expr) (ifs2 : List Expr) (scope : Scope) (pos : Pos) (it acc : Value) (env : Env) :
    compTurn (.ListComp elt [⟨t1, iter1, [], 0⟩, ⟨t2, iter2, ifs2, 0⟩] scope pos) 0 it acc env = (do
      standAt iter1.pos
      match ← pyNext it with
      | none => pure (.done .next)
      | some v =>
        letOwnedTupleGo t1 it v
        assign t1 env v
        let x ← eval iter2 env
        standAt iter2.pos
        let x ← foldedSetIterable iter2 env x
        let _ ← runOwn (.compStart (.ListComp elt [⟨t1, iter1, [], 0⟩, ⟨t2, iter2, ifs2, 0⟩] scope pos) 1 (← holding [x] (pyIter x)) acc env) env
        again (.compLoop (.ListComp elt [⟨t1, iter1, [], 0⟩, ⟨t2, iter2, ifs2, 0⟩] scope pos) 0 it acc env)) := by rfl
section
variable {prog : Program} {w : World} {A : Around} {E : Value → Shared → Prop} {R : Result → Shared → Prop} {s : Shared}
/-- the inner loop, where no test is met -/
theorem codeAny_compLoop_in {elt target iter : Expr} {g1 : Comprehension} {ifs : List Expr} {scope : Scope} {pos : Pos} {it acc : Value} {env : Env} (I : Nat → Shared → Prop)
    (turn : ∀ n s, I n s → wpAny (model prog w) A (pyNext it) (fun r s₁ => match r with
      | none => R (.ok .next) s₁
      | some v => wpAny (model prog w) A (assign target env v) (fun _ s₂ =>
          wpAny (model prog w) A (forIn ifs true fun c r => if r = true then do let ok ← isTrue c env (eval c env); pure (ForInStep.yield ok) else pure (ForInStep.yield r)) (fun ok s₃ =>
            ok = false ∧ ∃ m, m < n ∧ I m s₃) (notedBy (model prog w) A env fun e s' => R (.error e) s') s₂) (notedBy (model prog w) A env fun e s' => R (.error e) s') s₁) (notedBy (model prog w) A env fun e s' => R (.error e) s') s)
    (n : Nat) (h : I n s) (ht : ∀ v, letOwnedTupleGo target it v = pure () := by intro _; rfl) :
    codeAny (model prog w) A (.compLoop (.ListComp elt [g1, ⟨target, iter, ifs, 0⟩] scope pos) 1 it acc env) R s := by
  refine codeAny_loop rfl I (fun n s hI => ?_) n h
  show wpAny _ A ((compTurn (.ListComp elt [g1, ⟨target, iter, ifs, 0⟩] scope pos) 1 it acc env).onRaise (fun x => do noteFrame x env; theTreesLotGoes x)) _ _ s
  refine wpAny_noted ?_
  rw [compTurn_list_in]
  refine wpAny_bind (wpAny_standAt (wpAny_bind (wpAny_mono (turn n s hI) (fun r s₁ h₁ => ?_) fun _ _ h' => h')))
  cases r with
  | none => exact wpAny_pure h₁
  | some v =>
    refine wpAny_bind (wpAny_of_eq (ht v) ?_)
    refine wpAny_bind (wpAny_mono h₁ (fun _ s₂ h₂ => wpAny_bind (wpAny_mono h₂ (fun ok s₃ h₃ => ?_) fun _ _ h' => h')) fun _ _ h' => h')
    obtain ⟨rfl, h₃⟩ := h₃
    exact wpAny_pure ⟨rfl, h₃⟩
theorem codeAny_compStart_in {elt target iter : Expr} {g1 : Comprehension} {ifs : List Expr} {scope : Scope} {pos : Pos} {it acc : Value} {env : Env}
    (h0 : codeAny (model prog w) A (.compLoop (.ListComp elt [g1, ⟨target, iter, ifs, 0⟩] scope pos) 1 it acc env) R s)
    (h : wpAny (model prog w) A (pyIter it) (fun it' s' => codeAny (model prog w) A (.compLoop (.ListComp elt [g1, ⟨target, iter, ifs, 0⟩] scope pos) 1 it' acc env) R s')
      (notedBy (model prog w) A env fun x s' => R (.error x) s') s) :
    codeAny (model prog w) A (.compStart (.ListComp elt [g1, ⟨target, iter, ifs, 0⟩] scope pos) 1 it acc env) R s := by
  refine codeAny_of_tree ?_
  show wpAny _ _ ((compStart (.ListComp elt [g1, ⟨target, iter, ifs, 0⟩] scope pos) 1 it acc env).onRaise (fun x => do noteFrame x env; standAt theWindowsPlace)) _ _ s
  refine wpAny_notedAt ?_
  unfold compStart
  show wpAny _ _ (ask >>= _) _ _ s
  refine wpAny_bind (wpAny_askSetting (wpAny_ite ?_))
  split
  · first
      | exact wpAny_bind (wpAny_pure (wpAny_pure (And.intro rfl h0)))
      | exact wpAny_pure (And.intro rfl h0)
  · first
      | exact wpAny_bind (wpAny_rule (wpAny_bind (wpAny_standAt (wpAny_bind (wpAny_mono h (fun it' s' h' => wpAny_pure (And.intro rfl h')) fun _ _ x => x)))))
      | (refine wpAny_bind (wpAny_rule ?_); show wpAny _ _ (standAt iter.pos >>= _) _ _ s; exact wpAny_bind (wpAny_standAt (wpAny_bind (wpAny_mono h (fun it' s' h' => wpAny_pure (And.intro rfl h')) fun _ _ x => x))))
/-- the outer loop: its turn runs the inner one -/
theorem codeAny_compLoop_out {elt t1 iter1 t2 iter2 : Expr} {ifs2 : List Expr} {scope : Scope} {pos : Pos} {it acc : Value} {env : Env} (I : Nat → Shared → Prop)
    (turn : ∀ n s, I n s → wpAny (model prog w) A (pyNext it) (fun r s₁ => match r with
      | none => R (.ok .next) s₁
      | some v => wpAny (model prog w) A (assign t1 env v) (fun _ s₂ =>
          wpAny (model prog w) A (eval iter2 env) (fun x s₃ => wpAny (model prog w) A (pyIter x) (fun it2 s₄ =>
            codeAny (model prog w) A (.compStart (.ListComp elt [⟨t1, iter1, [], 0⟩, ⟨t2, iter2, ifs2, 0⟩] scope pos) 1 it2 acc env) (fun r s' => match r with | .ok _ => ∃ m, m < n ∧ I m s' | .error _ => False) s₄) Mine.NE s₃) Mine.NE s₂) Mine.NE s₁) Mine.NE s)
    (n : Nat) (h : I n s) (hs : ∀ x, foldedSetIterable iter2 env x = pure x) (ht : ∀ v, letOwnedTupleGo t1 it v = pure () := by intro _; rfl) :
    codeAny (model prog w) A (.compLoop (.ListComp elt [⟨t1, iter1, [], 0⟩, ⟨t2, iter2, ifs2, 0⟩] scope pos) 0 it acc env) R s := by
  refine codeAny_loop rfl I (fun n s hI => ?_) n h
  show wpAny _ A ((compTurn (.ListComp elt [⟨t1, iter1, [], 0⟩, ⟨t2, iter2, ifs2, 0⟩] scope pos) 0 it acc env).onRaise (fun x => do noteFrame x env; theTreesLotGoes x)) _ _ s
  refine wpAny_noted ?_
  rw [compTurn_list_out]
  refine wpAny_bind (wpAny_standAt (wpAny_bind (wpAny_mono (turn n s hI) (fun r s₁ h₁ => ?_) fun _ _ h' => h'.elim)))
  cases r with
  | none => exact wpAny_pure h₁
  | some v =>
    refine wpAny_bind (wpAny_of_eq (ht v) ?_)
    refine wpAny_bind (wpAny_mono h₁ (fun _ s₂ h₂ => ?_) fun _ _ h' => h'.elim)
    refine wpAny_bind (wpAny_mono h₂ (fun x s₃ h₃ => wpAny_bind (wpAny_standAt (wpAny_bind (wpAny_of_eq (hs x) ?_)))) fun _ _ h' => h'.elim)
    refine wpAny_bind (wpAny_mono (wpAny_holding h₃) (fun it2 s₄ h₄ => ?_) fun _ _ h' => h'.elim)
    refine wpAny_bind (wpAny_runOwn (codeAny_mono h₄ fun r s' hr => ?_))
    cases r with
    | ok f => exact wpAny_pure ⟨rfl, hr⟩
    | error e => exact hr.elim
end
end MineP
namespace Mine
open MineP
section
variable {C : Cx} {σ : Sig} {s s' s'' : Shared} {P : DF → Sig → Prop}
noncomputable abbrev sv (d : Option D) : Option Slot := d.map .val
theorem ownAs_two (sx : Option Slot) (a b : Option D) (σc : Sig) : ownAs (sx :: sv a :: σc) = ownAs (sx :: sv b :: σc) := by
  have : ∀ d : Option D, Slot.ownA (sv d) = none := fun d => by cases d <;> rfl
  unfold ownAs
  cases h : Slot.ownA sx <;> simp [List.filterMap_cons, h, this]
/-- the inner loop of a comprehension, where no test is met -/
theorem comp_inner {sx : Option Slot} {sy : Option D} {σc : Sig} {elt iter2 : Expr} {g1 : Comprehension} {y : Str} {py : Pos} {ifs : List Expr} {scope : Scope} {pos : Pos} {acc : Value} {N : Nat} {f : Nat → D}
    (hF : FmOk C.F) (e1 : C.F.lay[1]? = some (y, false)) (hi : ItW C (sx :: sv sy :: σc) iter2 N f)
    (ht : ∀ j, j < N → TestsOk C (sx :: some (.val (f j)) :: σc) ifs false)
    {A : Around} (hA : AOk C.n A) (O : C.Ok (sx :: sv sy :: σc) s) {Q : Shared → Prop}
    (hQ : ∀ s' sy', C.Ok (sx :: sv sy' :: σc) s' → Ext [C.X.T, C.F.env.locals] s s' → Q s') :
    wpAny C.X.M A (eval iter2 C.env) (fun x s₃ => wpAny C.X.M A (pyIter x) (fun it2 s₄ =>
      codeAny C.X.M A (.compStart (.ListComp elt [g1, ⟨.Name y py, iter2, ifs, 0⟩] scope pos) 1 it2 acc C.env) (fun r s' => match r with | .ok _ => Q s' | .error _ => False) s₄) NE s₃) NE s := by
  refine hi A s _ hA O fun I s2 fp wr Pv St x2 O2 It => ?_
  have wrHb : ∀ a ∈ wr, C.X.hb.get? a = none := fun a m => by
    cases q : C.X.hb.get? a with
    | none => rfl
    | some o => have := O.bs.le a o q; rw [(It.wrOk a m).2] at this; cases this
  have wrT : C.X.T ∉ wr := fun m => (It.fpOk _ (It.wrOk _ m).1).1 mem_T
  have WEq : ∀ d : Option D, C.W (sx :: sv d :: σc) = C.W (sx :: sv sy :: σc) := fun d => by
    show C.Wo ++ Wr C.X C.F _ = C.Wo ++ Wr C.X C.F _
    unfold Wr
    rw [ownAs_two sx d sy]
  have wrNot : ∀ a ∈ wr, a ∉ C.W (sx :: sv sy :: σc) := fun a m => (It.fpOk a (It.wrOk a m).1).1
  have TW : C.X.T ∈ C.W (sx :: sv sy :: σc) := mem_T
  have LW : C.F.env.locals ∈ C.W (sx :: sv sy :: σc) := mem_L
  have loop : codeAny C.X.M A (.compLoop (.ListComp elt [g1, ⟨.Name y py, iter2, ifs, 0⟩] scope pos) 1 (.ref I) acc C.env) (fun r s' => match r with | .ok _ => Q s' | .error _ => False) s2 := by
    refine codeAny_compLoop_in (fun n s' => ∃ (j : Nat) (sy' : Option D), n = N + 1 - j ∧ j ≤ N ∧ C.Ok (sx :: sv sy' :: σc) s' ∧ St j s'.heap ∧ (∀ a o, a ∉ C.X.T :: C.F.env.locals :: wr → s2.heap.get? a = some o → s'.heap.get? a = some o) ∧ s'.os = s2.os) ?_ (N + 1) ⟨0, sy, rfl, Nat.zero_le _, O2, It.st, fun a o _ e => e, rfl⟩
    rintro n s1 ⟨j, sy1, rfl, hj, O1, st1, kp1, os1⟩
    have inert1 : ∀ a ∈ wr, ∀ o, s1.heap.get? a = some o → Inert o := fun a m o e => by obtain ⟨o', e', q⟩ := It.live _ _ st1 a m; rw [e] at e'; cases e'; exact q.1
    have WoN : ∀ b ∈ C.Wo, b ∉ wr := fun b m n => wrNot b n (List.mem_append_left _ m)
    by_cases hlt : j < N
    · refine (It.walks A hA.1).item j s1 _ _ hlt st1 fun v h' tk hPv st2 hk2 => ?_
      let sa : Shared := { s1 with heap := h', toks := tk }
      have Oa : C.Ok (sx :: sv sy1 :: σc) sa := O1.keepOff (W' := wr) (fun b o n e => hk2 b o n e) inert1 WoN
        ⟨fun b o e => hk2 b o (fun m => absurd (e.symm.trans (wrHb b m)) (fun q => nomatch q)) (O1.bs.le b o e), let ⟨ps, e, r⟩ := O1.bs.tab; ⟨ps, hk2 _ _ wrT e, r⟩, O1.bs.bare⟩
      have dv : Den (C.W (sx :: sv sy1 :: σc)) h' v (f j) := by
        rw [WEq]
        refine (It.den j v hPv hlt).ext (fun a o n e => hk2 a o (fun m => n (List.mem_append_left _ m)) (kp1 a o (fun m => n ?_) e)) fun a m => .inl (List.mem_append_right _ m)
        rcases List.mem_cons.mp m with rfl | m
        · exact List.mem_append_right _ TW
        rcases List.mem_cons.mp m with rfl | m
        · exact List.mem_append_right _ LW
        · exact List.mem_append_left _ m
      refine wpAny_mono (wpAny_assign_Name (store_valP (i := 1) (sl := .val (f j)) hF e1 rfl Oa dv (Q := fun _ sb => C.Ok (sx :: some (.val (f j)) :: σc) sb ∧ Ext [C.F.env.locals] sa sb) fun sb Ob xb => ⟨Ob, xb⟩)) (fun _ sb ⟨Ob, xb⟩ => ?_) (fun _ _ q => q.elim)
      refine wpAny_mono (ht j hlt A sb (fun ok sc => ok = false ∧ C.Ok (sx :: some (.val (f j)) :: σc) sc ∧ Ext [C.X.T] sb sc) hA Ob fun ok sc xc Oc eok => ⟨eok, Oc, xc⟩) (fun ok sc ⟨eok, Oc, xc⟩ => ?_) (fun _ _ q => q.elim)
      have kW : ∀ a o, a ∉ C.W (sx :: sv sy :: σc) → h'.get? a = some o → sc.heap.get? a = some o := fun a o n e => xc.keep a o (fun m => n (by rw [List.mem_singleton.mp m]; exact TW)) (xb.keep a o (fun m => n (by rw [List.mem_singleton.mp m]; exact LW)) e)
      refine ⟨eok, N + 1 - (j + 1), by omega, j + 1, some (f j), rfl, hlt, Oc, (It.walks A hA.1).frame _ _ _ st2 fun a m o e => kW a o (It.fpOk a m).1 e, fun a o n e => ?_, ?_⟩
      · refine xc.keep a o (fun m => n ?_) (xb.keep a o (fun m => n ?_) (hk2 a o (fun m => n (.tail _ (.tail _ m))) (kp1 a o n e)))
        · rw [List.mem_singleton.mp m]; exact .head _
        · rw [List.mem_singleton.mp m]; exact .tail _ (.head _)
      · rw [xc.os, xb.os]; exact os1
    · have hjN : j = N := by omega
      subst hjN
      refine (It.walks A hA.1).done s1 _ _ st1 fun h' tk hk2 => ?_
      let sz : Shared := { s1 with heap := h', toks := tk }
      have Oz : C.Ok (sx :: sv sy1 :: σc) sz := O1.keepOff (W' := wr) (fun b o n e => hk2 b o n e) inert1 WoN
        ⟨fun b o e => hk2 b o (fun m => absurd (e.symm.trans (wrHb b m)) (fun q => nomatch q)) (O1.bs.le b o e), let ⟨ps, e, r⟩ := O1.bs.tab; ⟨ps, hk2 _ _ wrT e, r⟩, O1.bs.bare⟩
      have nW : ∀ a o, s.heap.get? a = some o → a ∉ wr := fun a o e m => by have := (It.wrOk a m).2; rw [e] at this; cases this
      have keepS : ∀ a o, a ∉ [C.X.T, C.F.env.locals] → s.heap.get? a = some o → h'.get? a = some o := fun a o n e => by
        refine hk2 a o (nW a o e) (kp1 a o (fun m => ?_) (x2.keep a o (fun m => n ?_) e))
        · rcases List.mem_cons.mp m with rfl | m
          · exact n (.head _)
          rcases List.mem_cons.mp m with rfl | m
          · exact n (.tail _ (.head _))
          · exact nW a o e m
        · rw [List.mem_singleton.mp m]; exact .head _
      refine hQ sz sy1 Oz ⟨keepS, fun a o e => ?_, os1.trans x2.os⟩
      by_cases q : a ∈ [C.X.T, C.F.env.locals]
      · refine Oz.live a (List.mem_append_right _ ?_)
        rcases List.mem_cons.mp q with rfl | q
        · exact .head _
        · rw [List.mem_singleton.mp q]; exact .tail _ (.head _)
      · exact ⟨o, keepS a o q e⟩
  exact codeAny_compStart_in loop ((It.walks A hA.1).self 0 _ _ _ It.st loop)
end
end Mine
namespace Mine
open MineP
section
variable {C : Cx} {σ : Sig} {s s' s'' : Shared} {P : DF → Sig → Prop}
/-- the context of a comprehension of two clauses -/
noncomputable abbrev Cx.comp2 (C : Cx) (σ : Sig) (scope : Scope) (cl : List (Str × Addr)) (x y : Str) (layc : List (Str × Bool)) (globc : List Str) (L Dl : Addr) : Cx :=
  ⟨C.X, ⟨compEnvC scope cl L C.env, (x, false) :: (y, false) :: layc, globc⟩, Dl :: C.W σ, C.n⟩
theorem FmOk.two {scope : Scope} {cl : List (Str × Addr)} {x y : Str} {layc : List (Str × Bool)} {globc : List Str} {σc : Sig} (K : CompF C σ scope cl x layc globc σc) (hy : scope.names.lookup y = some .local) (hn : y ∉ x :: layc.map (·.1)) (hd : (y == ("__debug__" : Str)) = false) (L : Addr) :
    FmOk ⟨compEnvC scope cl L C.env, (x, false) :: (y, false) :: layc, globc⟩ := by
  have h := K.ok L
  have up : ∀ p ∈ (x, false) :: (y, false) :: layc, p = (y, false) ∨ p ∈ (x, false) :: layc := fun p m => by
    rcases List.mem_cons.mp m with rfl | m
    · exact .inr (.head _)
    rcases List.mem_cons.mp m with rfl | m
    · exact .inl rfl
    · exact .inr (.tail _ m)
  have upT : ∀ z, (z, true) ∈ (x, false) :: (y, false) :: layc → (z, true) ∈ (x, false) :: layc := fun z m => (up _ m).elim (fun q => nomatch q) id
  refine ⟨h.kind, h.glo, h.bui, fun p hp => ?_, h.globs, ?_, fun p hp e => ?_, fun a b ha hb e => h.cellInj a b (upT a ha) (upT b hb) e, fun p hp => ?_, h.dbgG⟩
  · rcases up p hp with rfl | hp
    · exact lookup_relabel_local hy
    · exact h.names p hp
  · have n := h.nodup
    rw [List.map_cons] at n
    rw [List.map_cons, List.map_cons]
    obtain ⟨n1, n2⟩ := List.nodup_cons.mp n
    refine List.nodup_cons.mpr ⟨fun m => ?_, List.nodup_cons.mpr ⟨fun m => hn (.tail _ m), n2⟩⟩
    rcases List.mem_cons.mp m with q | m
    · exact hn (by rw [show y = x from q.symm]; exact .head _)
    · exact n1 m
  · rcases up p hp with rfl | hp
    · cases e
    · exact h.cells p hp e
  · rcases up p hp with rfl | hp
    · exact hd
    · exact h.dbgL p hp
set_option maxHeartbeats 1000000 in
theorem comp_core2 {elt iter iter2 : Expr} {x y : Str} {px py : Pos} {ifs : List Expr} {scope : Scope} {cl : List (Str × Addr)} {pos : Pos} {layc : List (Str × Bool)} {globc : List Str} {σc : Sig} {N N2 : Nat} {f f2 : Nat → D}
    (K : CompF C σ scope cl x layc globc σc) (KF : ∀ L, FmOk ⟨compEnvC scope cl L C.env, (x, false) :: (y, false) :: layc, globc⟩) (hi : ItW C σ iter N f)
    (hj : ∀ L Dl k sy, k < N → ItW (C.comp2 σ scope cl x y layc globc L Dl) (some (.val (f k)) :: sv sy :: σc) iter2 N2 f2)
    (ht : ∀ L Dl k j, k < N → j < N2 → TestsOk (C.comp2 σ scope cl x y layc globc L Dl) (some (.val (f k)) :: some (.val (f2 j)) :: σc) ifs false)
    {A : Around} (hA : AOk C.n A) (O : C.Ok σ s) {R : Value → Addr → Result → Shared → Prop}
    (hR : ∀ L Dl s5, CompDone C σ s s5 L Dl [] → R (.ref Dl) L (.ok .next) s5)
    (hs2 : ∀ (env : Env) x, foldedSetIterable iter2 env x = pure x) :
    wpAny C.X.M A (eval iter C.env) (fun xv s1 => wpAny C.X.M A (pyIter xv) (fun it s2 => wpAny C.X.M A (newList []) (fun acc s3 => wpAny C.X.M A (newFunctionEnv scope C.env.globals cl [] C.env.qual none .none (some C.env)) (fun cenv s4 =>
      codeAny C.X.M A (.compStart (.ListComp elt [⟨.Name x px, iter, [], 0⟩, ⟨.Name y py, iter2, ifs, 0⟩] scope pos) 0 it acc { cenv with scope := relabel scope C.env }) (R acc cenv.locals) s4) NE s3) NE s2) NE s1) NE s := by
  refine hi A s _ hA O fun I s2 fp wr Pv St x2 O2 It => ?_
  refine wpAny_newList ?_ (by simp)
  refine wpAny_newFunctionEnv K.nocell (fun y hy => by cases hy) (fun h4 hns4 hsb4 => ?_) K.kind
  dsimp only at hns4 hsb4 ⊢
  let Dl : Addr := s2.heap.objs.size
  generalize eH3 : s2.heap.push { cls := .type "list", data := .seq ([] : List Value).toArray } = H3 at hns4 hsb4 ⊢
  generalize eL : H3.objs.size = L at hns4 hsb4 ⊢
  have hL : L = Dl + 1 := by rw [← eL, ← eH3, Heap.size_push]
  have hDL : Dl ≠ L := by rw [hL]; exact Nat.ne_of_lt (Nat.lt_succ_self _)
  have dD : s2.heap.get? Dl = none := get_size
  have dL : s2.heap.get? L = none := Heap.get?_none_of_le (by rw [hL]; exact Nat.le_succ _)
  have old : ∀ b o, s2.heap.get? b = some o → h4.get? b = some o := fun b o e => hsb4.extBut b o (fun q => by rw [q, dL] at e; cases e) (Heap.get?_push_of_some _ (eH3 ▸ Heap.get?_push_of_some _ e))
  have eD4 : h4.get? Dl = some { cls := .type "list", data := .seq ([] : List Value).toArray } := hsb4.extBut _ _ hDL (Heap.get?_push_of_some _ (eH3 ▸ Heap.get?_push_size _ rfl))
  have eL4 : ∃ o, h4.get? L = some o := let ⟨o, _, _, e, _⟩ := hns4; ⟨o, e⟩
  let C' := C.comp2 σ scope cl x y layc globc L Dl
  let σ₀ : Sig := sv none :: sv none :: σc
  let W' : List Addr := C'.W σ₀
  have cellEq : ∀ c ∈ C'.F.cellAs, c ∈ C.F.cellAs := fun c hc => by
    obtain ⟨y, hy, rfl⟩ := cell_mem hc
    rcases List.mem_cons.mp hy with hy | hy
    · cases hy
    rcases List.mem_cons.mp hy with hy | hy
    · cases hy
    · obtain ⟨_, h2, h3⟩ := K.cells _ hy
      have : C'.F.cell y = C.F.cell y := by
        show (cl.lookup y).getD 0 = (C.env.cells.lookup y).getD 0
        rw [h3]
      rw [this]; exact mem_cell h2
  have svN : ∀ d : Option D, Slot.ownA (sv d) = none := fun d => by cases d <;> rfl
  have ownN : ∀ a b : Option D, ownAs (sv a :: sv b :: σc) = [] := fun a b => noOwn_of (σc := sv b :: σc) (by
    have := K.noOwn
    unfold noOwnB at this ⊢
    rw [List.all_cons, this]
    cases b <;> rfl) _ (svN a)
  have WEq : ∀ a b : Option D, C'.W (sv a :: sv b :: σc) = W' := fun a b => by
    show C'.Wo ++ Wr C'.X C'.F (sv a :: sv b :: σc) = C'.Wo ++ Wr C'.X C'.F σ₀
    unfold Wr
    rw [ownN a b, ownN none none]
  have W'sub : ∀ a ∈ W', a ∈ C.W σ ∨ s2.heap.get? a = none := fun a m => by
    rcases List.mem_append.mp m with m | m
    · rcases List.mem_cons.mp m with rfl | m
      · exact .inr dD
      · exact .inl m
    rcases List.mem_cons.mp m with rfl | m
    · exact .inl mem_T
    rcases List.mem_cons.mp m with rfl | m
    · exact .inr dL
    rw [ownN none none, List.append_nil] at m
    exact .inl (List.mem_append_right _ (.tail _ (.tail _ (List.mem_append_left _ (cellEq a m)))))
  have wrNot : ∀ a ∈ wr, a ∉ C.W σ ∧ ∃ o, s2.heap.get? a = some o := fun a m => It.fpOk a (It.wrOk a m).1
  have wrW' : ∀ a ∈ wr, a ∉ W' := fun a m n => (W'sub a n).elim (wrNot a m).1 fun q => by obtain ⟨o, e⟩ := (wrNot a m).2; rw [q] at e; cases e
  have fpW' : ∀ a ∈ fp, a ∉ W' := fun a m n => (W'sub a n).elim (It.fpOk a m).1 fun q => by obtain ⟨o, e⟩ := (It.fpOk a m).2; rw [q] at e; cases e
  have DW' : Dl ∈ W' := List.mem_append_left _ (.head _)
  have LW' : L ∈ W' := List.mem_append_right _ (.tail _ (.head _))
  have TW' : C.X.T ∈ W' := List.mem_append_right _ (.head _)
  have wrHb : ∀ a ∈ wr, C.X.hb.get? a = none := fun a m => by
    cases q : C.X.hb.get? a with
    | none => rfl
    | some o => have := O.bs.le a o q; rw [(It.wrOk a m).2] at this; cases this
  have TneD : C.X.T ≠ Dl := fun q => by obtain ⟨ps, e, _⟩ := O2.bs.tab; rw [q, dD] at e; cases e
  have slotAt : ∀ (j : Nat) sl, σc[j]? = some (some sl) → ∃ (y : Str) (i : Nat) (sl₀ : Slot), layc[j]? = some (y, true) ∧ C.F.lay[i]? = some (y, true) ∧ σ[i]? = some (some sl₀) ∧ Down sl₀ sl := fun j sl e => by
    have hj : j < layc.length := Nat.lt_of_lt_of_le (List.getElem?_eq_some_iff.mp e).1 K.len
    obtain ⟨⟨y, b⟩, hy⟩ : ∃ q, layc[j]? = some q := ⟨layc[j], by simp [hj]⟩
    have hb := (K.cells _ (List.mem_of_getElem? hy)).1
    dsimp only at hb
    subst hb
    obtain ⟨i, sl₀, h1, h2, h3⟩ := K.slots j y sl hy e
    exact ⟨y, i, sl₀, hy, h1, h2, h3⟩
  -- the comprehension's frame, as it starts
  have OC : C'.Ok σ₀ { s2 with heap := h4, toks := s2.toks + ([] : List (Str × Value)).length } := by
    have k' : ∀ a o, s2.heap.get? a = some o → ¬ Inert o → h4.get? a = some o := fun a o e _ => old a o e
    obtain ⟨mP, hnP, hvP⟩ := O2.vars
    refine ⟨⟨fun a o e => old a o (O2.bs.le a o e), let ⟨ps, e, r⟩ := O2.bs.tab; ⟨ps, old _ _ e, r⟩, O2.bs.bare⟩, ⟨_, hns4, fun j y b sl h1 h2 => ?_⟩, fun y hy => ?_, fun j a ds e => ?_, fun a m => ?_, fun a m => ?_, by rw [ownN none none]; exact List.nodup_nil, by rw [ownN none none]; exact fun _ m => nomatch m⟩
    · cases j with
      | zero => cases h2
      | succ j =>
      cases j with
      | zero => cases h2
      | succ j =>
        obtain ⟨y', i, sl₀, hy, e1, e2, e3⟩ := slotAt j sl (by simpa [σ₀] using h2)
        have h1' : layc[j]? = some (y, b) := by simpa [Cx.comp2, C'] using h1
        rw [hy] at h1'; cases h1'
        obtain ⟨v, hh, hs⟩ := hvP i y true sl₀ e1 e2
        have hcell : C'.F.cell y = C.F.cell y := by
          show (cl.lookup y).getD 0 = (C.env.cells.lookup y).getD 0
          rw [(K.cells _ (List.mem_of_getElem? hy)).2.2]
        refine ⟨v, ?_, ?_⟩
        · show h4.IsCell (C'.F.cell y) (some v)
          rw [hcell]; exact isCell_up k' hh
        · show SDen W' h4 v sl
          cases e3 with
          | val d => exact den_up k' W'sub hs
          | own a ds => obtain ⟨ev, vs, p, r⟩ := hs; exact ⟨ev, vs, isList_up k' p.isList, dens_up k' W'sub r⟩
          | ro a ds => obtain ⟨ev, vs, p, r⟩ := hs; exact ⟨ev, vs, isList_up k' p, dens_up k' W'sub r⟩
    · rcases List.mem_cons.mp hy with hy | hy
      · cases hy
      rcases List.mem_cons.mp hy with hy | hy
      · cases hy
      · obtain ⟨_, h2, h3⟩ := K.cells _ hy
        obtain ⟨v, q⟩ := O2.cells y h2
        have hcell : C'.F.cell y = C.F.cell y := by
          show (cl.lookup y).getD 0 = (C.env.cells.lookup y).getD 0
          rw [h3]
        exact ⟨v, by rw [hcell]; exact isCell_up k' q⟩
    · have := mem_own (σ := σ₀) e
      rw [ownN none none] at this; cases this
    · rcases W'sub a m with q | q
      · exact O2.fresh a q
      · show C.X.hb.get? a = none
        cases z : C.X.hb.get? a with
        | none => rfl
        | some o => have := O2.bs.le a o z; rw [q] at this; cases this
    · rcases List.mem_cons.mp m with rfl | m
      · exact ⟨_, eD4⟩
      · obtain ⟨o, e⟩ := O2.live a m; exact ⟨o, old a o e⟩
  -- the loop
  have loop : ∀ s4 : Shared, s4 = { s2 with heap := h4, toks := s2.toks + ([] : List (Str × Value)).length } →
      codeAny C.X.M A (.compLoop (.ListComp elt [⟨.Name x px, iter, [], 0⟩, ⟨.Name y py, iter2, ifs, 0⟩] scope pos) 0 (.ref I) (.ref Dl) (compEnvC scope cl L C.env)) (R (.ref Dl) L) s4 := by
    rintro s4 rfl
    have st0 : St 0 h4 := (It.walks { handled := none } rfl).frame 0 _ _ It.st fun b _ o e => old b o e
    refine codeAny_compLoop_out (fun n s' => ∃ (k : Nat) (sx sy : Option D), n = N + 1 - k ∧ k ≤ N ∧ C'.Ok (sv sx :: sv sy :: σc) s' ∧ St k s'.heap ∧ s'.heap.PlainList Dl ([] : List Value).toArray ∧ (∀ a o, a ∉ C.X.T :: wr → s2.heap.get? a = some o → s'.heap.get? a = some o) ∧ s'.os = s2.os) ?_ (N + 1) ⟨0, none, none, rfl, Nat.zero_le _, OC, st0, ⟨_, eD4⟩, fun a o _ e => old a o e, rfl⟩ (hs2 _)
    rintro n s1 ⟨k, sx, sy, rfl, hk, O1, st1, pl1, kp1, os1⟩
    have inert1 : ∀ a ∈ wr, ∀ o, s1.heap.get? a = some o → Inert o := fun a m o e => by obtain ⟨o', e', q⟩ := It.live _ _ st1 a m; rw [e] at e'; cases e'; exact q.1
    by_cases hlt : k < N
    · refine (It.walks A hA.1).item k s1 _ _ hlt st1 fun v h' tk hPv st2 hk2 => ?_
      let sa : Shared := { s1 with heap := h', toks := tk }
      have Oa : C'.Ok (sv sx :: sv sy :: σc) sa := O1.keepOff (W' := wr) (fun b o n e => hk2 b o n e) inert1 (fun b m n => wrW' b n (List.mem_append_left _ m))
        ⟨fun b o e => hk2 b o (fun m => absurd (e.symm.trans (wrHb b m)) (fun q => nomatch q)) (O1.bs.le b o e), let ⟨ps, e, r⟩ := O1.bs.tab; ⟨ps, hk2 _ _ (fun m => wrW' _ m TW') e, r⟩, O1.bs.bare⟩
      have up1 : ∀ a o, s1.heap.get? a = some o → ¬ Inert o → h'.get? a = some o := fun a o e n => hk2 a o (fun m => n (inert1 a m o e)) e
      have dv : Den W' h' v (f k) := (It.den k v hPv hlt).ext (fun a o n e => hk2 a o (fun m => n (List.mem_append_left _ m)) (kp1 a o (fun m => n (by
          rcases List.mem_cons.mp m with rfl | m
          · exact List.mem_append_right _ mem_T
          · exact List.mem_append_left _ m)) e)) fun a m => (W'sub a m).imp (List.mem_append_right _) id
      refine wpAny_mono (wpAny_assign_Name (store_valP (C := C') (KF L) (i := 0) (sl := .val (f k)) rfl rfl Oa (by show Den (C'.W (sv sx :: sv sy :: σc)) _ _ _; rw [WEq sx sy]; exact dv) (Q := fun _ sb => C'.Ok (some (.val (f k)) :: sv sy :: σc) sb ∧ Ext [L] sa sb) fun sb Ob xb => ⟨Ob, xb⟩)) (fun _ sb ⟨Ob, xb⟩ => ?_) (fun _ _ q => q.elim)
      have keepL : ∀ a o, a ≠ L → h'.get? a = some o → sb.heap.get? a = some o := fun a o n e => xb.keep a o (fun m => n (List.mem_singleton.mp m)) e
      refine comp_inner (C := C') (sx := some (.val (f k))) (sy := sy) (N := N2) (f := f2) (KF L) rfl (hj L Dl k sy hlt) (fun j hj' => ht L Dl k j hlt hj') hA Ob fun sc sy' Oc xc => ?_
      have keepC : ∀ a o, a ∉ [C.X.T, L] → sb.heap.get? a = some o → sc.heap.get? a = some o := fun a o n e => xc.keep a o n e
      have keepB : ∀ a o, a ∉ W' → h'.get? a = some o → sc.heap.get? a = some o := fun a o n e => keepC a o (fun m => n (by
          rcases List.mem_cons.mp m with rfl | m
          · exact TW'
          · rw [List.mem_singleton.mp m]; exact LW')) (keepL a o (fun q => n (q ▸ LW')) e)
      refine ⟨N + 1 - (k + 1), by omega, k + 1, some (f k), sy', rfl, hlt, Oc, (It.walks A hA.1).frame _ _ _ st2 fun a m o e => keepB a o (fpW' a m) e, ?_, fun a o n e => ?_, ?_⟩
      · obtain ⟨n, e⟩ := plain_up up1 pl1
        refine ⟨n, keepC _ _ (fun m => ?_) (keepL _ _ hDL e)⟩
        rcases List.mem_cons.mp m with q | m
        · exact TneD q.symm
        · exact hDL (List.mem_singleton.mp m)
      · have aL : a ≠ L := fun q => by rw [q, dL] at e; cases e
        refine keepC a o (fun m => ?_) (keepL a o aL (hk2 a o (fun m => n (.tail _ m)) (kp1 a o n e)))
        rcases List.mem_cons.mp m with rfl | m
        · exact n (.head _)
        · exact aL (List.mem_singleton.mp m)
      · rw [xc.os, xb.os]; exact os1
    · have hkN : k = N := by omega
      subst hkN
      refine (It.walks A hA.1).done s1 _ _ st1 fun h' tk hk2 => hR L Dl _ ?_
      let sz : Shared := { s1 with heap := h', toks := tk }
      have up1 : ∀ a o, s1.heap.get? a = some o → ¬ Inert o → h'.get? a = some o := fun a o e n => hk2 a o (fun m => n (inert1 a m o e)) e
      have kz : ∀ a o, a ∉ C.X.T :: wr → s2.heap.get? a = some o → h'.get? a = some o := fun a o n e => hk2 a o (fun m => n (.tail _ m)) (kp1 a o n e)
      have plZ : h'.PlainList Dl ([] : List Value).toArray := plain_up up1 pl1
      have bz : Bs C.X sz := ⟨fun b o e => hk2 b o (fun m => absurd (e.symm.trans (wrHb b m)) (fun q => nomatch q)) (O1.bs.le b o e), let ⟨ps, e, r⟩ := O1.bs.tab; ⟨ps, hk2 _ _ (fun m => wrW' _ m TW') e, r⟩, O1.bs.bare⟩
      have nsZ : ∃ m, h'.Ns L m := let ⟨m, hn, _⟩ := O1.vars; ⟨m, ns_up up1 hn⟩
      have exL : ∃ o, h'.get? L = some o := let ⟨_, o, _, _, e, _⟩ := nsZ; ⟨o, e⟩
      have okZ : Mine.Ok C.X C.F ([Dl, L] ++ C.Wo) σ sz := by
        refine O2.growOff (W' := C.X.T :: wr) kz (fun a m o e => ?_) (fun a m => ?_) (fun b m => ?_) bz
        · rcases List.mem_cons.mp m with rfl | m
          · exact O2.bs.inertT _ (.head _) o e
          · obtain ⟨o', e', q⟩ := It.live _ _ It.st a m; rw [e] at e'; cases e'; exact q.1
        · by_cases q : a = C.X.T
          · subst q; obtain ⟨ps, e, _⟩ := bz.tab; exact ⟨_, e⟩
          · obtain ⟨o, e⟩ := O2.there a m
            exact ⟨o, kz a o (fun m' => by
              rcases List.mem_cons.mp m' with z | m'
              · exact q z
              · exact (wrNot a m').1 (List.mem_append_left _ m)) e⟩
        · rcases List.mem_cons.mp m with rfl | m
          · obtain ⟨n, e⟩ := plZ; exact ⟨dD, _, e⟩
          · rw [List.mem_singleton.mp m]; exact ⟨dL, exL⟩
      refine ⟨okZ, nsZ, ⟨[], plZ, .nil⟩, ⟨fun a o n e => ?_, fun a o e => ?_, ?_⟩, ⟨x2.none dD, x2.none dL⟩, hDL⟩
      · refine kz a o (fun m => ?_) (x2.keep a o n e)
        rcases List.mem_cons.mp m with rfl | m
        · exact n (.head _)
        · rw [(It.wrOk a m).2] at e; cases e
      · by_cases q : a = C.X.T
        · subst q; obtain ⟨ps, e, _⟩ := bz.tab; exact ⟨_, e⟩
        · refine ⟨o, kz a o (fun m => ?_) (x2.keep a o (fun m => q (List.mem_singleton.mp m)) e)⟩
          rcases List.mem_cons.mp m with z | m
          · exact q z
          · rw [(It.wrOk a m).2] at e; cases e
      · show s1.os = s.os
        rw [os1, x2.os]
  exact codeAny_compStart_list (loop _ rfl) ((It.walks A hA.1).self 0 _ _ _ ((It.walks { handled := none } rfl).frame _ _ _ It.st fun b _ o e => old b o e) (loop _ rfl))
/-- [.. for x in .. for y in .. if t], where no test is met -/
theorem EvN.comp2X {elt iter iter2 : Expr} {x y : Str} {px py : Pos} {ifs : List Expr} {scope : Scope} {pos : Pos} {frees globc : List Str} {σc : Sig} {N N2 : Nat} {f f2 : Nat → D} (hF : FmOk C.F) (cs : CSlots C.F.lay σ frees σc) (hi : ItW C σ iter N f)
    (hj : ∀ L Dl k sy, FmOk (C.comp2 σ scope (clOf C.F frees) x y (frees.map fun y => (y, true)) globc L Dl).F → k < N → ItW (C.comp2 σ scope (clOf C.F frees) x y (frees.map fun y => (y, true)) globc L Dl) (some (.val (f k)) :: sv sy :: σc) iter2 N2 f2)
    (ht : ∀ L Dl k j, FmOk (C.comp2 σ scope (clOf C.F frees) x y (frees.map fun y => (y, true)) globc L Dl).F → k < N → j < N2 → TestsOk (C.comp2 σ scope (clOf C.F frees) x y (frees.map fun y => (y, true)) globc L Dl) (some (.val (f k)) :: some (.val (f2 j)) :: σc) ifs false)
    (hck : compCheck scope x frees globc = true := by decide +kernel) (hcells : (frees.all fun y => C.F.lay.contains (y, true)) = true := by rfl) (hl : Nat.ble σ.length C.F.lay.length = true := by rfl)
    (hy : scope.names.lookup y = some .local := by decide +kernel) (hn : (x :: frees).contains y = false := by decide +kernel) (hd : (y == ("__debug__" : Str)) = false := by decide +kernel)
    (hs : ∀ x, foldedSetIterable iter C.env x = pure x := by intro _; rfl) (hs2 : ∀ (env : Env) x, foldedSetIterable iter2 env x = pure x := by intro _ _; rfl) :
    EvN C σ (.ListComp elt [⟨.Name x px, iter, [], 0⟩, ⟨.Name y py, iter2, ifs, 0⟩] scope pos) [] := .mk fun A s Q hA O hQ => by
  have K := CompF.of (σ := σ) hF hck (allIn hcells) cs
  have KF : ∀ L, FmOk ⟨compEnvC scope (clOf C.F frees) L C.env, (x, false) :: (y, false) :: frees.map fun y => (y, true), globc⟩ := FmOk.two K hy (fun m => by
    have : y ∈ x :: frees := by
      rcases List.mem_cons.mp m with q | m
      · exact q ▸ .head _
      · rw [List.map_map] at m
        obtain ⟨z, hz, q⟩ := List.mem_map.mp m
        exact q ▸ .tail _ hz
    rw [List.contains_iff_mem.mpr this] at hn; cases hn) hd
  rw [eval_ListComp]
  refine wpAny_comprehension_free (use := none) rfl hs K.clos K.kind K.names (comp_core2 (R := fun acc L => compPost C.X.M A NE none Q acc L) K KF hi (fun L Dl k sy hk => hj L Dl k sy (KF L) hk) (fun L Dl k j hk hj' => ht L Dl k j (KF L) hk hj') hA O (fun L Dl s5 K5 => ?_) hs2)
  obtain ⟨m, hn⟩ := K5.ns
  refine ⟨m, hn, fun h' hs' => ?_⟩
  obtain ⟨O6, x6, vs, pl, dn⟩ := K5.after O (Nat.le_of_ble_eq_true hl) hs'
  exact hQ _ _ x6 O6 ⟨Dl, vs, rfl, K5.new.1, pl, dn⟩
end
end Mine
namespace Mine
open MineP
/-- the signs of each place, by rank -/
noncomputable def sgT : List (List Nat) := [[45, 63, 98, 99, 100, 108, 112, 115], [45, 114], [45, 119], [45, 83, 115, 120], [45, 114], [45, 119], [45, 83, 115, 120], [45, 114], [45, 119], [45, 84, 116, 120]]
noncomputable def sg (k r : Nat) : Nat := (sgT.getD k []).getD r 0
noncomputable def bd (k : Nat) : Nat := (sgT.getD k []).length
noncomputable def Vld (r : Nat → Nat) : Prop := ∀ k, k < 10 → r k < bd k
noncomputable def txL (r : Nat → Nat) (n : Nat) : List Nat := (List.range n).map fun k => sg k (r k)
noncomputable def tx (r : Nat → Nat) : Str := strOf (txL r 10)
theorem sg_lt : ∀ k, k < 10 → ∀ a, a < bd k → ∀ b, b < bd k → (decide (sg k a < sg k b) = decide (a < b)) := by decide +kernel
theorem sg_sign : ∀ k, k < 10 → ∀ a, a < bd k → sg k a ∈ signsA := by decide +kernel
theorem sg_small : ∀ k, k < 10 → ∀ a, a < bd k → sg k a < 128 := by decide +kernel
theorem sg_mono {k a b : Nat} (hk : k < 10) (ha : a < bd k) (hb : b < bd k) : sg k a < sg k b ↔ a < b := by
  have := sg_lt k hk a ha b hb
  simpa using this
theorem sg_inj {k a b : Nat} (hk : k < 10) (ha : a < bd k) (hb : b < bd k) : sg k a = sg k b ↔ a = b := by
  constructor
  · intro h
    have h1 := sg_mono hk ha hb
    have h2 := sg_mono hk hb ha
    omega
  · rintro rfl; rfl
theorem tx_len (r : Nat → Nat) : (tx r).length = 10 := by
  show (txL r 10).toArray.size = 10
  simp [txL]
theorem txL_get (r : Nat → Nat) {n k : Nat} (hk : k < n) : (txL r n)[k]? = some (sg k (r k)) := by
  simp [txL, hk]
theorem tx_get (r : Nat → Nat) {k : Nat} (hk : k < 10) : (tx r).cps[k]? = some (sg k (r k)) := by
  show (txL r 10).toArray[k]? = _
  rw [List.getElem?_toArray]; exact txL_get r hk
theorem tx_getD (r : Nat → Nat) {k : Nat} (hk : k < 10) : (tx r).cps.getD k 0 = sg k (r k) := by
  have := tx_get r hk
  rw [Array.getD_eq_getD_getElem?, this]; rfl
theorem tx_ascii {r : Nat → Nat} (hr : Vld r) : (tx r).cps.all (· < 128) = true := by
  rw [Array.all_eq_true]
  intro i hi
  have hi' : i < 10 := by have := tx_len r; exact this ▸ hi
  rw [Option.some.inj (show some ((tx r).cps[i]) = some (sg i (r i)) by rw [← tx_get r hi']; exact (Array.getElem?_eq_getElem hi).symm)]
  exact decide_eq_true (sg_small i hi' _ (hr i hi'))
theorem tx_ok {r q : Nat → Nat} (hr : Vld r) (hq : Vld q) : ∀ j, j < 10 → okPair ((tx r).cps.getD j 0) ((tx q).cps.getD j 0) = true := fun j hj => by
  rw [tx_getD r hj, tx_getD q hj]
  exact List.all_eq_true.mp (List.all_eq_true.mp okPair_all _ (sg_sign j hj _ (hr j hj))) _ (sg_sign j hj _ (hq j hj))
/-- the range at a place -/
noncomputable def loN (r q : Nat → Nat) (k : Nat) : Nat := sg k (min (r k) (q k))
noncomputable def hiN (r q : Nat → Nat) (k : Nat) : Nat := sg k (max (r k) (q k))
theorem min_sg {r q : Nat → Nat} (hr : Vld r) (hq : Vld q) {k : Nat} (hk : k < 10) : min (sg k (r k)) (sg k (q k)) = loN r q k := by
  unfold loN
  have h1 := sg_mono hk (hr k hk) (hq k hk)
  have h2 := sg_mono hk (hq k hk) (hr k hk)
  rcases Nat.lt_trichotomy (r k) (q k) with h | h | h
  · rw [Nat.min_eq_left (Nat.le_of_lt (h1.mpr h)), Nat.min_eq_left (Nat.le_of_lt h)]
  · rw [h]; simp
  · rw [Nat.min_eq_right (Nat.le_of_lt (h2.mpr h)), Nat.min_eq_right (Nat.le_of_lt h)]
theorem max_sg {r q : Nat → Nat} (hr : Vld r) (hq : Vld q) {k : Nat} (hk : k < 10) : max (sg k (r k)) (sg k (q k)) = hiN r q k := by
  unfold hiN
  have h1 := sg_mono hk (hr k hk) (hq k hk)
  have h2 := sg_mono hk (hq k hk) (hr k hk)
  rcases Nat.lt_trichotomy (r k) (q k) with h | h | h
  · rw [Nat.max_eq_right (Nat.le_of_lt (h1.mpr h)), Nat.max_eq_right (Nat.le_of_lt h)]
  · rw [h]; simp
  · rw [Nat.max_eq_left (Nat.le_of_lt (h2.mpr h)), Nat.max_eq_left (Nat.le_of_lt h)]
-- what a range takes
theorem rgsOf_get (lo hi : Nat → Nat) {k n : Nat} (hk : k < n) : (rgsOf lo hi n).getD k default = (ch (lo k), ch (hi k)) := by
  simp [rgsOf, hk]
theorem ch_lt (c : Nat) (d : Nat) : decide ([c] < (ch d).cps.toList) = decide (c < d) := by simp [List.cons_lt_cons_iff]
theorem ch_lt' (c : Nat) (d : Nat) : decide ((ch d).cps.toList < [c]) = decide (d < c) := by simp [List.cons_lt_cons_iff]
theorem rL_getD (r : Nat → Nat) {k : Nat} (hk : k < 10) : (rL r).getD k 0 = (r k : Int) := by
  simp [hk]
theorem takes_between {r q s : Nat → Nat} (hr : Vld r) (hq : Vld q) (hs : Vld s) : takesB (rgsOf (loN r q) (hiN r q) 10) (tx s) = betweenB (rL r) (rL s) (rL q) := by
  unfold takesB betweenB
  rw [tx_len s]
  congr 2
  refine List.filter_congr fun k hk => ?_
  have hk : k < 10 := List.mem_range.mp hk
  unfold takesK betweenK
  rw [rgsOf_get _ _ hk, tx_getD s hk, rL_getD r hk, rL_getD s hk, rL_getD q hk]
  dsimp only
  rw [ch_lt, ch_lt']
  unfold loN hiN
  have hmn : min (r k) (q k) < bd k := by have := hr k hk; omega
  have hmx : max (r k) (q k) < bd k := by have := hr k hk; have := hq k hk; omega
  have e1 : decide (sg k (s k) < sg k (min (r k) (q k))) = decide (s k < min (r k) (q k)) := sg_lt k hk _ (hs k hk) _ hmn
  have e2 : decide (sg k (max (r k) (q k)) < sg k (s k)) = decide (max (r k) (q k) < s k) := sg_lt k hk _ hmx _ (hs k hk)
  rw [e1, e2]
  congr 1
  congr 1
  · rw [← decide_not, decide_eq_decide]
    split <;> omega
  · rw [← decide_not, decide_eq_decide]
    split <;> omega
end Mine
namespace Mine
open MineP
theorem strOf_toList (l : List Nat) : (strOf l).cps.toList = l := rfl
theorem join_nil : ∀ xs : List Str, Str.join "" xs = strOf (xs.flatMap fun x => x.cps.toList)
  | [] => rfl
  | [x] => by
    show x = _
    simp [strOf]
  | x :: y :: r => by
    show x ++ "" ++ Str.join "" (y :: r) = _
    rw [join_nil (y :: r)]
    show (⟨(x.cps ++ #[]) ++ _⟩ : Str) = _
    simp [strOf]
theorem outL_succ (x y : Str) (k : Nat) : outL x y (k + 1) = outL x y k ++ outTok (x.cps.getD k 0) (y.cps.getD k 0) := by
  unfold outL; rw [List.range_succ, List.flatMap_append]; simp
theorem join_outs (x y : Str) (k : Nat) : Str.join "" (outsL x y k) = strOf (outL x y k) := by
  rw [join_nil]
  congr 1
  unfold outsL outL
  rw [List.flatMap_map]
  rfl
theorem outTok_len (a b : Nat) : (outTok a b).length ≤ 6 := by
  unfold outTok escL escDL
  split
  · split <;> (try split) <;> simp
  · split <;> simp
theorem outTok_pos (a b : Nat) : 0 < (outTok a b).length := by
  unfold outTok escL escDL
  split
  · split <;> (try split) <;> simp
  · split <;> simp
theorem outL_len (x y : Str) : ∀ k, (outL x y k).length ≤ 6 * k
  | 0 => by simp [outL]
  | k + 1 => by rw [outL_succ, List.length_append]; have := outL_len x y k; have := outTok_len (x.cps.getD k 0) (y.cps.getD k 0); omega
theorem strOf_len (l : List Nat) : (strOf l).length = l.length := by show l.toArray.size = _; simp
theorem outs_sum (x y : Str) : ∀ k, ((outsL x y k).map (·.length)).sum ≤ 6 * k
  | 0 => by simp [outsL]
  | k + 1 => by
    have h : outsL x y (k + 1) = outsL x y k ++ [strOf (outTok (x.cps.getD k 0) (y.cps.getD k 0))] := by
      unfold outsL; rw [List.range_succ, List.map_append]; rfl
    rw [h, List.map_append, List.sum_append]
    have := outs_sum x y k
    have := outTok_len (x.cps.getD k 0) (y.cps.getD k 0)
    simp only [List.map_cons, List.map_nil, List.sum_cons, List.sum_nil, strOf_len]
    omega
theorem outL_get (x y : Str) {j n : Nat} (hj : j < n) : ∀ t e, (outTok (x.cps.getD j 0) (y.cps.getD j 0))[t]? = some e → (outL x y n)[(outL x y j).length + t]? = some e := by
  intro t e h
  induction n with
  | zero => omega
  | succ n ih =>
    have ht := (List.getElem?_eq_some_iff.mp h).1
    rw [outL_succ]
    by_cases q : j < n
    · rw [List.getElem?_append_left ((List.getElem?_eq_some_iff.mp (ih q)).1)]; exact ih q
    · have : j = n := by omega
      subst this
      rw [List.getElem?_append_right (by omega)]
      simpa using h
/-- what translate answers -/
noncomputable def trL (x y : Str) : List Nat := [40, 63, 115, 58] ++ outL x y 10 ++ [41, 92, 90]
theorem tr_eq (x y : Str) : ("(?s:" ++ Str.join "" (outsL x y 10) ++ ")\\Z" : Str) = strOf (trL x y) := by
  rw [join_outs]
  show (strOf [40, 63, 115, 58] ++ strOf (outL x y 10)) ++ strOf [41, 92, 90] = _
  rw [strOf_app, strOf_app]; rfl
theorem trL_len (x y : Str) : (trL x y).length = 7 + (outL x y 10).length := by
  unfold trL; simp only [List.length_append, List.length_cons, List.length_nil]; omega
theorem tr_head (x y : Str) : cutL (trL x y) none (some 4) = [40, 63, 115, 58] := by
  have h := trL_len x y
  have e1 : kms_lo none (trL x y).length = 0 := rfl
  have e2 : kms_hi (some 4) (trL x y).length = 4 := by
    unfold kms_hi
    simp only [h]
    simp
    omega
  unfold cutL
  rw [e1, e2]
  unfold trL
  simp
theorem tr_tail (x y : Str) : cutL (trL x y) (some (-3)) none = [41, 92, 90] := by
  have h := trL_len x y
  have e1 : kms_lo (some (-3)) (trL x y).length = 4 + (outL x y 10).length := by
    unfold kms_lo
    simp only [h]
    simp
    omega
  have e2 : kms_hi none (trL x y).length = (trL x y).length := rfl
  unfold cutL
  rw [e1, e2, h]
  unfold trL
  rw [List.drop_append_of_le_length (by simp; omega)]
  rw [List.drop_of_length_le (by simp; omega)]
  rw [show 7 + (outL x y 10).length - (4 + (outL x y 10).length) = 3 by omega]
  rfl
theorem tr_get (x y : Str) {j : Nat} (hj : j < 10) : ∀ t e, (outTok (x.cps.getD j 0) (y.cps.getD j 0))[t]? = some e → (strOf (trL x y)).cps[4 + (outL x y j).length + t]? = some e := by
  intro t e h
  show (trL x y).toArray[_]? = _
  rw [List.getElem?_toArray]
  have hg := outL_get x y hj t e h
  have hl := (List.getElem?_eq_some_iff.mp hg).1
  unfold trL
  rw [List.getElem?_append_left (by simp only [List.length_append, List.length_cons, List.length_nil]; omega), List.getElem?_append_right (by simp only [List.length_cons, List.length_nil]; omega)]
  rw [← hg]
  congr 1
  simp only [List.length_cons, List.length_nil]; omega
theorem sign_facts : ∀ a ∈ signsA, a ≠ 91 ∧ a ≠ 92 := by decide +kernel
theorem rd_tok {x : Str} {k a b : Nat} (ha : a ∈ signsA) (hb : b ∈ signsA) (h : ∀ t e, (outTok a b)[t]? = some e → x.cps[k + t]? = some e) : Rd x k (min a b) (max a b) (k + (outTok a b).length) := by
  obtain ⟨a1, a2⟩ := sign_facts a ha
  obtain ⟨b1, b2⟩ := sign_facts b hb
  unfold outTok at h ⊢
  by_cases hab : a = b
  · subst hab
    rw [if_pos rfl] at h ⊢
    rw [Nat.min_self, Nat.max_self]
    by_cases h63 : a = 63
    · rw [if_pos h63] at h ⊢
      exact .br (h 0 91 rfl) (by rw [h63]; exact h 1 63 rfl) a2 (h 2 93 rfl)
    · rw [if_neg h63] at h ⊢
      unfold escL at h ⊢
      by_cases h45 : a = 45
      · rw [if_pos h45] at h ⊢
        exact .esc (h 0 92 rfl) (by rw [h45]; exact h 1 45 rfl)
      · rw [if_neg h45] at h ⊢
        exact .one (h 0 a rfl) a1 a2
  · rw [if_neg hab] at h ⊢
    have m2 : min a b ≠ 92 := by rcases Nat.le_total a b with q | q <;> simp [q, a2, b2]
    have x2 : max a b ≠ 92 := by rcases Nat.le_total a b with q | q <;> simp [q, a2, b2]
    unfold escDL at h ⊢
    by_cases h45 : min a b = 45
    · rw [if_pos h45] at h ⊢
      exact .epair (h 0 91 rfl) (h 1 92 rfl) (by rw [h45]; exact h 2 45 rfl) (h 3 45 rfl) (h 4 _ rfl) x2 (h 5 93 rfl)
    · rw [if_neg h45] at h ⊢
      exact .pair (h 0 91 rfl) (h 1 _ rfl) m2 (h 2 45 rfl) (h 3 _ rfl) x2 (h 4 93 rfl)
theorem rgsOf_congr {lo lo' hi hi' : Nat → Nat} {n : Nat} (h : ∀ k, k < n → lo k = lo' k ∧ hi k = hi' k) : rgsOf lo hi n = rgsOf lo' hi' n := by
  unfold rgsOf
  refine List.map_congr_left fun k hk => ?_
  obtain ⟨h1, h2⟩ := h k (List.mem_range.mp hk)
  rw [h1, h2]
section
variable {X : Wd}
/-- the three calls at a pair of texts -/
theorem fn_three (hP : Pg X) {n : Nat} {r q : Nat → Nat} (hr : Vld r) (hq : Vld q) :
    FnS X (n + 2) (.ref 144) [.str (tx r), .str (tx q)] (.str (strOf (patL (tx r) (tx q) 10))) ∧ FnS X (n + 3) (.ref 90) [.str (strOf (patL (tx r) (tx q) 10))] (.str (strOf (trL (tx r) (tx q)))) ∧
    FnS X (n + 2) (.ref 158) [.str (strOf (trL (tx r) (tx q)))] (.list (rgL (rgsOf (loN r q) (hiN r q) 10))) := by
  refine ⟨?_, ?_, ?_⟩
  · have := fn_pattern hP (n := n) (tx r) (tx q) (tx_ascii hr) (tx_ascii hq) (by rw [tx_len, tx_len]) (by rw [tx_len]; decide)
    rw [tx_len] at this
    exact this
  · rw [← tr_eq]
    refine fn_translate hP (tx r) (tx q) 10 (by decide) (tx_ok hr hq) ?_ ?_
    · have := outs_sum (tx r) (tx q) 10; omega
    · rw [join_outs, strOf_len]; have := outL_len (tx r) (tx q) 10; omega
  · have hlen := outL_len (tx r) (tx q) 10
    refine (fn_ranges hP (strOf (trL (tx r) (tx q))) 10 (fun i => 4 + (outL (tx r) (tx q) i).length) (fun i => min (sg i (r i)) (sg i (q i))) (fun i => max (sg i (r i)) (sg i (q i))) (by decide) ?_ (tr_head _ _) (tr_tail _ _) (by simp [outL]) ?_ fun i hi => ?_).to ?_
    · rw [strOf_len, trL_len]; omega
    · rw [strOf_len, trL_len]; omega
    · have hd := rd_tok (x := strOf (trL (tx r) (tx q))) (k := 4 + (outL (tx r) (tx q) i).length) (sg_sign i hi _ (hr i hi)) (sg_sign i hi _ (hq i hi)) (fun t e h => tr_get (tx r) (tx q) hi t e (by rw [tx_getD r hi, tx_getD q hi]; exact h))
      rw [show (4 + (outL (tx r) (tx q) (i + 1)).length) = 4 + (outL (tx r) (tx q) i).length + (outTok (sg i (r i)) (sg i (q i))).length by rw [outL_succ, List.length_append, tx_getD r hi, tx_getD q hi]; omega]
      exact hd
    · congr 1
      rw [rgsOf_congr fun k hk => ⟨min_sg hr hq hk, max_sg hr hq hk⟩]
end
end Mine
namespace Mine
open MineP

-- the order of two texts
theorem gtL_irrefl : ∀ l : List Int, gtL l l = false
  | [] => rfl
  | a :: r => by unfold gtL; rw [if_pos rfl]; exact gtL_irrefl r
theorem gtL_asymm : ∀ l m : List Int, gtL l m = true → gtL m l = false
  | [], _, h => by simp [gtL] at h
  | _ :: _, [], h => by simp [gtL] at h
  | a :: r, b :: q, h => by
    unfold gtL at h ⊢
    by_cases e : a = b
    · subst e; rw [if_pos rfl] at h ⊢; exact gtL_asymm r q h
    · rw [if_neg e] at h; rw [if_neg (fun z => e z.symm)]
      simp only [decide_eq_true_eq] at h
      simp only [decide_eq_false_iff_not]; omega
theorem gtL_total : ∀ l m : List Int, l.length = m.length → l ≠ m → gtL l m = false → gtL m l = true
  | [], [], _, h, _ => absurd rfl h
  | [], _ :: _, h, _, _ => by simp at h
  | _ :: _, [], h, _, _ => by simp at h
  | a :: r, b :: q, hl, hn, h => by
    unfold gtL at h ⊢
    by_cases e : a = b
    · subst e; rw [if_pos rfl] at h ⊢
      exact gtL_total r q (by simpa using hl) (fun z => hn (by rw [z])) h
    · rw [if_neg e] at h; rw [if_neg (fun z => e z.symm)]
      simp only [decide_eq_false_iff_not] at h
      simp only [decide_eq_true_eq]; omega
theorem lex_eq {r q : Nat → Nat} (hr : Vld r) (hq : Vld q) : ∀ l : List Nat, (∀ k ∈ l, k < 10) →
    decide ((l.map fun k => sg k (q k)) < (l.map fun k => sg k (r k))) = gtL (l.map fun k => (r k : Int)) (l.map fun k => (q k : Int))
  | [], _ => by simp [gtL]
  | k :: l, h => by
    have ih := lex_eq hr hq l fun j m => h j (.tail _ m)
    have hk := h k (.head _)
    rw [List.map_cons, List.map_cons, List.map_cons, List.map_cons]
    unfold gtL
    have h1 := sg_mono hk (hq k hk) (hr k hk)
    have h2 := sg_inj hk (hq k hk) (hr k hk)
    by_cases e : r k = q k
    · rw [if_pos (by rw [e])]
      rw [← ih, decide_eq_decide, List.cons_lt_cons_iff]
      constructor
      · rintro (z | ⟨_, z⟩)
        · have := h1.mp z; omega
        · exact z
      · intro z; exact .inr ⟨h2.mpr e.symm, z⟩
    · rw [if_neg (fun z => e (by omega)), decide_eq_decide, List.cons_lt_cons_iff]
      constructor
      · rintro (z | ⟨z, _⟩)
        · have := h1.mp z; omega
        · exact absurd (h2.mp z).symm e
      · intro z; exact .inl (h1.mpr (by omega))
theorem rL_inj {r q : Nat → Nat} : rL r = rL q ↔ ∀ k, k < 10 → r k = q k := by
  constructor
  · intro h k hk
    have := congrArg (fun l : List Int => l.getD k 0) h
    simp only [rL_getD r hk, rL_getD q hk] at this
    omega
  · intro h
    exact List.map_congr_left fun k hk => by rw [h k (List.mem_range.mp hk)]
theorem tx_order {r q : Nat → Nat} (hr : Vld r) (hq : Vld q) : strcollD (tx r) (tx q) = dueI (rL r) (rL q) := by
  have h1 : decide ((tx q).cps.toList < (tx r).cps.toList) = gtL (rL r) (rL q) := lex_eq hr hq (List.range 10) fun k m => List.mem_range.mp m
  have h2 : decide ((tx r).cps.toList < (tx q).cps.toList) = gtL (rL q) (rL r) := lex_eq hq hr (List.range 10) fun k m => List.mem_range.mp m
  have hl : (rL r).length = (rL q).length := by simp
  unfold strcollD dueI
  rw [h1, h2]
  by_cases e : rL r = rL q
  · rw [if_pos e, e, gtL_irrefl]; rfl
  · rw [if_neg e]
    cases g : gtL (rL r) (rL q) with
    | true => rw [if_pos rfl, gtL_asymm _ _ g]; rfl
    | false => rw [if_neg (by decide), gtL_total _ _ hl e g]; rfl
theorem rL_len (r : Nat → Nat) : (rL r).length = 10 := by simp
-- the middle of three
noncomputable def medN (a b c : Nat) : Nat := if a ≤ b then if b ≤ c then b else if a ≤ c then c else a else if a ≤ c then a else if b ≤ c then c else b
noncomputable def sort3 (a b c : Nat) : List Int := if a ≤ b then if b ≤ c then [(a : Int), b, c] else if a ≤ c then [(a : Int), c, b] else [(c : Int), a, b] else if a ≤ c then [(b : Int), a, c] else if b ≤ c then [(b : Int), c, a] else [(c : Int), b, a]
theorem sort3_get (a b c : Nat) : (iL (sort3 a b c))[(1 : Int).toNat]? = some (.int (medN a b c)) := by
  unfold sort3 medN
  split <;> split <;> (try split) <;> rfl
theorem sort3_sorted (a b c : Nat) : (sort3 a b c).Pairwise (· ≤ ·) := by
  unfold sort3
  split <;> split <;> (try split) <;> simp <;> omega
theorem sort3_perm (a b c : Nat) : (sort3 a b c).Perm [(a : Int), b, c] := by
  have bca : ∀ x y z : Int, [z, x, y].Perm [x, y, z] := fun x y z => (List.Perm.swap x z [y]).trans ((List.Perm.swap y z []).cons x)
  unfold sort3
  split <;> split <;> (try split)
  · exact .refl _
  · exact (List.Perm.swap (b : Int) c []).cons _
  · exact bca _ _ _
  · exact List.Perm.swap (a : Int) b [_]
  · exact (bca _ _ _).symm
  · exact (List.Perm.swap (b : Int) c [_]).trans (((List.Perm.swap (a : Int) c []).cons _).trans (List.Perm.swap (a : Int) b [_]))
theorem sort3_only (a b c : Nat) : ∀ ns' : List Int, ns'.Perm [(a : Int), b, c] → ns'.Pairwise (· ≤ ·) → ns' = sort3 a b c := fun ns' p s =>
  List.Perm.eq_of_pairwise (fun x y _ _ h1 h2 => by omega) s (sort3_sorted a b c) (p.trans (sort3_perm a b c).symm)
theorem med_is (a b c : Nat) : medN a b c = a ∨ medN a b c = b ∨ medN a b c = c := by
  unfold medN; split <;> split <;> (try split) <;> simp
theorem med_lt {a b c n : Nat} (ha : a < n) (hb : b < n) (hc : c < n) : medN a b c < n := by
  rcases med_is a b c with h | h | h <;> rw [h] <;> assumption
theorem med_max : ∀ a, a < 8 → ∀ b, b < 8 → ∀ c, c < 8 → max (max (min a b) (min b c)) (min a c) = medN a b c := by decide +kernel
theorem med_min : ∀ a, a < 8 → ∀ b, b < 8 → ∀ c, c < 8 → min (min (max a b) (max b c)) (max a c) = medN a b c := by decide +kernel
theorem bd_le : ∀ k, k < 10 → bd k ≤ 8 := by decide
-- max and min of three signs
theorem max3 (a b c : Nat) : [ch a, ch b, ch c].getD (argBest (gtS [ch a, ch b, ch c]) 2) "" = ch (max (max a b) c) := by
  have e10 : gtS [ch a, ch b, ch c] 1 0 = decide (a < b) := ch_lt a b
  have e20 : gtS [ch a, ch b, ch c] 2 0 = decide (a < c) := ch_lt a c
  have e21 : gtS [ch a, ch b, ch c] 2 1 = decide (b < c) := ch_lt b c
  unfold argBest argBest argBest
  by_cases h1 : a < b
  · rw [show (gtS [ch a, ch b, ch c] (0 + 1) 0) = true by rw [e10]; exact decide_eq_true h1, if_pos rfl]
    by_cases h2 : b < c
    · rw [show (gtS [ch a, ch b, ch c] (1 + 1) (0 + 1)) = true by rw [e21]; exact decide_eq_true h2, if_pos rfl]
      rw [Nat.max_eq_right (Nat.le_of_lt h1), Nat.max_eq_right (Nat.le_of_lt h2)]; rfl
    · rw [show (gtS [ch a, ch b, ch c] (1 + 1) (0 + 1)) = false by rw [e21]; exact decide_eq_false h2, if_neg Bool.false_ne_true]
      rw [Nat.max_eq_right (Nat.le_of_lt h1), Nat.max_eq_left (Nat.le_of_not_lt h2)]; rfl
  · rw [show (gtS [ch a, ch b, ch c] (0 + 1) 0) = false by rw [e10]; exact decide_eq_false h1, if_neg Bool.false_ne_true]
    by_cases h2 : a < c
    · rw [show (gtS [ch a, ch b, ch c] (1 + 1) 0) = true by rw [e20]; exact decide_eq_true h2, if_pos rfl]
      rw [Nat.max_eq_left (Nat.le_of_not_lt h1), Nat.max_eq_right (Nat.le_of_lt h2)]; rfl
    · rw [show (gtS [ch a, ch b, ch c] (1 + 1) 0) = false by rw [e20]; exact decide_eq_false h2, if_neg Bool.false_ne_true]
      rw [Nat.max_eq_left (Nat.le_of_not_lt h1), Nat.max_eq_left (Nat.le_of_not_lt h2)]; rfl
theorem min3 (a b c : Nat) : [ch a, ch b, ch c].getD (argBest (ltS [ch a, ch b, ch c]) 2) "" = ch (min (min a b) c) := by
  have e10 : ltS [ch a, ch b, ch c] 1 0 = decide (b < a) := ch_lt b a
  have e20 : ltS [ch a, ch b, ch c] 2 0 = decide (c < a) := ch_lt c a
  have e21 : ltS [ch a, ch b, ch c] 2 1 = decide (c < b) := ch_lt c b
  unfold argBest argBest argBest
  by_cases h1 : b < a
  · rw [show (ltS [ch a, ch b, ch c] (0 + 1) 0) = true by rw [e10]; exact decide_eq_true h1, if_pos rfl]
    by_cases h2 : c < b
    · rw [show (ltS [ch a, ch b, ch c] (1 + 1) (0 + 1)) = true by rw [e21]; exact decide_eq_true h2, if_pos rfl]
      rw [Nat.min_eq_right (Nat.le_of_lt h1), Nat.min_eq_right (Nat.le_of_lt h2)]; rfl
    · rw [show (ltS [ch a, ch b, ch c] (1 + 1) (0 + 1)) = false by rw [e21]; exact decide_eq_false h2, if_neg Bool.false_ne_true]
      rw [Nat.min_eq_right (Nat.le_of_lt h1), Nat.min_eq_left (Nat.le_of_not_lt h2)]; rfl
  · rw [show (ltS [ch a, ch b, ch c] (0 + 1) 0) = false by rw [e10]; exact decide_eq_false h1, if_neg Bool.false_ne_true]
    by_cases h2 : c < a
    · rw [show (ltS [ch a, ch b, ch c] (1 + 1) 0) = true by rw [e20]; exact decide_eq_true h2, if_pos rfl]
      rw [Nat.min_eq_left (Nat.le_of_not_lt h1), Nat.min_eq_right (Nat.le_of_lt h2)]; rfl
    · rw [show (ltS [ch a, ch b, ch c] (1 + 1) 0) = false by rw [e20]; exact decide_eq_false h2, if_neg Bool.false_ne_true]
      rw [Nat.min_eq_left (Nat.le_of_not_lt h1), Nat.min_eq_left (Nat.le_of_not_lt h2)]; rfl
theorem max_sgN {k a b : Nat} (hk : k < 10) (ha : a < bd k) (hb : b < bd k) : max (sg k a) (sg k b) = sg k (max a b) := by
  have h1 := sg_mono hk ha hb
  have h2 := sg_mono hk hb ha
  rcases Nat.lt_trichotomy a b with h | h | h
  · rw [Nat.max_eq_right (Nat.le_of_lt (h1.mpr h)), Nat.max_eq_right (Nat.le_of_lt h)]
  · rw [h]; simp
  · rw [Nat.max_eq_left (Nat.le_of_lt (h2.mpr h)), Nat.max_eq_left (Nat.le_of_lt h)]
theorem min_sgN {k a b : Nat} (hk : k < 10) (ha : a < bd k) (hb : b < bd k) : min (sg k a) (sg k b) = sg k (min a b) := by
  have h1 := sg_mono hk ha hb
  have h2 := sg_mono hk hb ha
  rcases Nat.lt_trichotomy a b with h | h | h
  · rw [Nat.min_eq_left (Nat.le_of_lt (h1.mpr h)), Nat.min_eq_left (Nat.le_of_lt h)]
  · rw [h]; simp
  · rw [Nat.min_eq_right (Nat.le_of_lt (h2.mpr h)), Nat.min_eq_right (Nat.le_of_lt h)]
theorem lows_max {r q s : Nat → Nat} (hr : Vld r) (hq : Vld q) (hs : Vld s) {k : Nat} (hk : k < 10) : max (max (loN r q k) (loN q s k)) (loN r s k) = sg k (medN (r k) (q k) (s k)) := by
  have h1 := hr k hk; have h2 := hq k hk; have h3 := hs k hk; have hb := bd_le k hk
  unfold loN
  have b1 : min (r k) (q k) < bd k := Nat.lt_of_le_of_lt (Nat.min_le_left _ _) h1
  have b2 : min (q k) (s k) < bd k := Nat.lt_of_le_of_lt (Nat.min_le_left _ _) h2
  have b3 : min (r k) (s k) < bd k := Nat.lt_of_le_of_lt (Nat.min_le_left _ _) h1
  rw [max_sgN hk b1 b2, max_sgN hk (Nat.max_lt.mpr ⟨b1, b2⟩) b3, med_max _ (Nat.lt_of_lt_of_le h1 hb) _ (Nat.lt_of_lt_of_le h2 hb) _ (Nat.lt_of_lt_of_le h3 hb)]
theorem highs_min {r q s : Nat → Nat} (hr : Vld r) (hq : Vld q) (hs : Vld s) {k : Nat} (hk : k < 10) : min (min (hiN r q k) (hiN q s k)) (hiN r s k) = sg k (medN (r k) (q k) (s k)) := by
  have h1 := hr k hk; have h2 := hq k hk; have h3 := hs k hk; have hb := bd_le k hk
  unfold hiN
  have b1 : max (r k) (q k) < bd k := Nat.max_lt.mpr ⟨h1, h2⟩
  have b2 : max (q k) (s k) < bd k := Nat.max_lt.mpr ⟨h2, h3⟩
  have b3 : max (r k) (s k) < bd k := Nat.max_lt.mpr ⟨h1, h3⟩
  rw [min_sgN hk b1 b2, min_sgN hk (Nat.lt_of_le_of_lt (Nat.min_le_left _ _) b1) b3, med_min _ (Nat.lt_of_lt_of_le h1 hb) _ (Nat.lt_of_lt_of_le h2 hb) _ (Nat.lt_of_lt_of_le h3 hb)]
end Mine
namespace Mine
open MineP
/-- the rank of a mode at a place -/
noncomputable def rkN (m k : Nat) : Nat := ((ranksI m).getD k 0).toNat
theorem ranksI_len (m : Nat) : (ranksI m).length = 10 := by simp [ranksI, grp]
theorem getD_nonneg {l : List Int} (h : ∀ x ∈ l, 0 ≤ x) (k : Nat) : 0 ≤ l.getD k 0 := by
  rw [List.getD_eq_getElem?_getD]
  cases e : l[k]? with
  | none => simp
  | some x => exact h x (List.mem_of_getElem? e)
theorem kind_nonneg : ∀ x ∈ kindL, (0 : Int) ≤ x := by decide
theorem run_nonneg : ∀ x ∈ runL, (0 : Int) ≤ x := by decide
theorem grp_nonneg (m c : Nat) : ∀ x ∈ grp m c, (0 : Int) ≤ x := fun x h => by
  unfold grp at h
  rcases List.mem_cons.mp h with rfl | h
  · omega
  rcases List.mem_cons.mp h with rfl | h
  · omega
  rw [List.mem_singleton.mp h]; exact getD_nonneg run_nonneg _
theorem ranksI_nonneg (m : Nat) : ∀ x ∈ ranksI m, (0 : Int) ≤ x := fun x h => by
  unfold ranksI at h
  rcases List.mem_cons.mp h with rfl | h
  · exact getD_nonneg kind_nonneg _
  rcases List.mem_append.mp h with h | h
  · rcases List.mem_append.mp h with h | h
    · exact grp_nonneg _ _ x h
    · exact grp_nonneg _ _ x h
  · exact grp_nonneg _ _ x h
theorem ranksI_eq (m : Nat) : ranksI m = rL (rkN m) := by
  refine List.ext_getElem (by rw [ranksI_len, rL_len]) fun k h1 h2 => ?_
  have hx := ranksI_nonneg m _ (List.getElem_mem h1)
  have hk : k < 10 := by rw [ranksI_len] at h1; exact h1
  simp only [List.getElem_map, List.getElem_range]
  unfold rkN
  rw [List.getD_eq_getElem?_getD, List.getElem?_eq_getElem h1]
  show _ = (((ranksI m)[k].toNat : Nat) : Int)
  omega
noncomputable def runN (x : Nat) : Nat := (runL.getD x 0).toNat
theorem rk0 (m : Nat) : rkN m 0 = (kindL.getD (m / 4096) 0).toNat := rfl
theorem rkr (m c : Nat) (hc : c < 3) : rkN m (7 - 3 * c) = figN m c / 4 ∧ rkN m (8 - 3 * c) = figN m c / 2 % 2 ∧ rkN m (9 - 3 * c) = runN (figN m c % 2 + 2 * aboveN m c) := by
  have : c = 0 ∨ c = 1 ∨ c = 2 := by omega
  rcases this with rfl | rfl | rfl <;> exact ⟨Int.toNat_natCast _, Int.toNat_natCast _, rfl⟩
theorem kind_lt : ∀ i, i < 16 → (kindL.getD i 0).toNat < 8 := by decide
theorem run_lt : ∀ i, i < 4 → runN i < 4 := by decide
theorem ten : ∀ k, k < 10 → k = 0 ∨ k = 1 ∨ k = 2 ∨ k = 3 ∨ k = 4 ∨ k = 5 ∨ k = 6 ∨ k = 7 ∨ k = 8 ∨ k = 9 := by decide
theorem place_cases {k : Nat} (hk : k < 10) : k = 0 ∨ ∃ c, c < 3 ∧ (k = 7 - 3 * c ∨ k = 8 - 3 * c ∨ k = 9 - 3 * c) := by
  rcases ten k hk with rfl | rfl | rfl | rfl | rfl | rfl | rfl | rfl | rfl | rfl
  · exact .inl rfl
  · exact .inr ⟨2, by decide, .inl rfl⟩
  · exact .inr ⟨2, by decide, .inr (.inl rfl)⟩
  · exact .inr ⟨2, by decide, .inr (.inr rfl)⟩
  · exact .inr ⟨1, by decide, .inl rfl⟩
  · exact .inr ⟨1, by decide, .inr (.inl rfl)⟩
  · exact .inr ⟨1, by decide, .inr (.inr rfl)⟩
  · exact .inr ⟨0, by decide, .inl rfl⟩
  · exact .inr ⟨0, by decide, .inr (.inl rfl)⟩
  · exact .inr ⟨0, by decide, .inr (.inr rfl)⟩
theorem bd_at : bd 0 = 8 ∧ ∀ c, c < 3 → bd (7 - 3 * c) = 2 ∧ bd (8 - 3 * c) = 2 ∧ bd (9 - 3 * c) = 4 := by decide
theorem rk_vld {m : Nat} (hm : m < 65536) : Vld (rkN m) := fun k hk => by
  rcases place_cases hk with rfl | ⟨c, hc, rfl | rfl | rfl⟩
  · rw [rk0, bd_at.1]; exact kind_lt _ (by omega)
  · rw [(rkr m c hc).1, (bd_at.2 c hc).1]; unfold figN; omega
  · rw [(rkr m c hc).2.1, (bd_at.2 c hc).2.1]; omega
  · rw [(rkr m c hc).2.2, (bd_at.2 c hc).2.2]; exact run_lt _ (by unfold figN aboveN; omega)
-- the bits of a mode
theorem and_shift (m n c : Nat) : m &&& (c * 2 ^ n) = ((m / 2 ^ n) &&& c) * 2 ^ n := by
  refine Nat.eq_of_testBit_eq fun i => ?_
  rw [Nat.testBit_and, Nat.testBit_mul_two_pow, Nat.testBit_mul_two_pow, Nat.testBit_and, Nat.testBit_div_two_pow]
  by_cases h : n ≤ i
  · rw [show i - n + n = i by omega]
    simp [h]
  · simp [h]
theorem and_bit (m n : Nat) : m &&& 2 ^ n = (m / 2 ^ n % 2) * 2 ^ n := by
  have := and_shift m n 1
  rw [Nat.one_mul, Nat.and_one_is_mod] at this
  exact this
theorem bitAnd_nat (m c : Nat) : Builtin.bitAnd (m : Int) (c : Int) = ((m &&& c : Nat) : Int) := by
  unfold Builtin.bitAnd
  rw [decide_eq_true (Int.natCast_nonneg m), decide_eq_true (Int.natCast_nonneg c)]
  show (((m : Int).toNat &&& (c : Int).toNat : Nat) : Int) = _
  rw [Int.toNat_natCast, Int.toNat_natCast]
theorem bit_int (m n : Nat) : Builtin.bitAnd (m : Int) ((2 ^ n : Nat) : Int) = (((m / 2 ^ n % 2) * 2 ^ n : Nat) : Int) := by rw [bitAnd_nat, and_bit]
theorem bits_int (m a b : Nat) : Builtin.bitAnd (m : Int) ((2 ^ a ||| 2 ^ b : Nat) : Int) = (((m / 2 ^ a % 2) * 2 ^ a ||| (m / 2 ^ b % 2) * 2 ^ b : Nat) : Int) := by rw [bitAnd_nat, Nat.and_or_distrib_left, and_bit, and_bit]
theorem kind_int {m : Nat} (hm : m < 65536) : Builtin.bitAnd (m : Int) 61440 = ((m / 4096 * 4096 : Nat) : Int) := by
  have h := bitAnd_nat m 61440
  rw [show (61440 : Nat) = 15 * 2 ^ 12 by decide, and_shift, show (15 : Nat) = 2 ^ 4 - 1 by decide, Nat.and_two_pow_sub_one_eq_mod] at h
  rw [show m / 2 ^ 12 % 2 ^ 4 = m / 4096 by omega] at h
  exact h
theorem kind_sign : ∀ h, h < 16 → (match (fmT.getD 0 []).find? (fun p => ((h * 4096 : Nat) : Int) == p.1) with
  | some p => p.2
  | none => if 0 = 0 then ("?" : Str) else "-") = ch (sg 0 (kindL.getD h 0).toNat) := by decide +kernel
theorem sign_0 {m : Nat} (hm : m < 65536) : signF m 0 = ch (sg 0 (rkN m 0)) := by
  have e := kind_int hm
  rw [rk0]
  unfold signF
  have ht : ∀ p : Int × Str, testF m 0 p = (((m / 4096 * 4096 : Nat) : Int) == p.1) := fun p => by unfold testF; rw [if_pos rfl, e]
  rw [show (testF m 0) = fun p => (((m / 4096 * 4096 : Nat) : Int) == p.1) from funext ht]
  exact kind_sign _ (Nat.div_lt_of_lt_mul hm)
theorem sign_b {m k n : Nat} {c : Str} (hk : k ≠ 0) (hr : fmT.getD k [] = [(((2 ^ n : Nat) : Int), c)]) : signF m k = if m / 2 ^ n % 2 = 1 then c else "-" := by
  unfold signF
  rw [hr, List.find?_cons]
  have ht : testF m k (((2 ^ n : Nat) : Int), c) = decide (m / 2 ^ n % 2 = 1) := by
    unfold testF
    rw [if_neg hk, bit_int]
    have hp : 0 < 2 ^ n := Nat.two_pow_pos n
    rcases (by omega : m / 2 ^ n % 2 = 0 ∨ m / 2 ^ n % 2 = 1) with h | h
    · rw [h, Nat.zero_mul]
      simp only [beq_eq_false_iff_ne, ne_eq, decide_false, Nat.zero_ne_one]
      omega
    · rw [h, Nat.one_mul]; simp
  rw [ht]
  by_cases h : m / 2 ^ n % 2 = 1
  · simp [h]
  · simp [h, hk]
/-- a sign of the third kind: both bits, the upper one, the lower one -/
theorem sign_x {m k lo hi : Nat} {c0 c1 c2 : Str} (hk : k ≠ 0) (hr : fmT.getD k [] = [(((2 ^ lo ||| 2 ^ hi : Nat) : Int), c0), (((2 ^ hi : Nat) : Int), c1), (((2 ^ lo : Nat) : Int), c2)])
    (h01 : (2 ^ lo ||| 2 ^ hi) ≠ 2 ^ lo) (h02 : (2 ^ lo ||| 2 ^ hi) ≠ 2 ^ hi) (h03 : (2 ^ lo ||| 2 ^ hi) ≠ 0) :
    signF m k = if m / 2 ^ hi % 2 = 1 then (if m / 2 ^ lo % 2 = 1 then c0 else c1) else (if m / 2 ^ lo % 2 = 1 then c2 else "-") := by
  unfold signF
  rw [hr]
  have hp : 0 < 2 ^ lo := Nat.two_pow_pos lo
  have hq : 0 < 2 ^ hi := Nat.two_pow_pos hi
  have t0 : testF m k (((2 ^ lo ||| 2 ^ hi : Nat) : Int), c0) = (decide (m / 2 ^ hi % 2 = 1) && decide (m / 2 ^ lo % 2 = 1)) := by
    unfold testF
    rw [if_neg hk, bits_int]
    rcases (by omega : m / 2 ^ lo % 2 = 0 ∨ m / 2 ^ lo % 2 = 1) with h | h <;> rcases (by omega : m / 2 ^ hi % 2 = 0 ∨ m / 2 ^ hi % 2 = 1) with g | g <;> rw [h, g] <;> simp
    · intro z; exact h03 (by exact_mod_cast z.symm)
    · intro z; exact h02 (by exact_mod_cast z.symm)
    · intro z; exact h01 (by exact_mod_cast z.symm)
  have t1 : ∀ (n : Nat) (c : Str), testF m k (((2 ^ n : Nat) : Int), c) = decide (m / 2 ^ n % 2 = 1) := fun n c => by
    unfold testF
    rw [if_neg hk, bit_int]
    have hp : 0 < 2 ^ n := Nat.two_pow_pos n
    rcases (by omega : m / 2 ^ n % 2 = 0 ∨ m / 2 ^ n % 2 = 1) with h | h
    · rw [h, Nat.zero_mul]
      simp only [beq_eq_false_iff_ne, ne_eq, decide_false, Nat.zero_ne_one]
      omega
    · rw [h, Nat.one_mul]; simp
  rw [List.find?_cons, t0, List.find?_cons, t1, List.find?_cons, t1]
  by_cases h : m / 2 ^ lo % 2 = 1 <;> by_cases g : m / 2 ^ hi % 2 = 1 <;> simp [h, g, hk]
end Mine
namespace Mine
open MineP
theorem bit_sg {u : Nat} {k : Nat} {c : Nat} (hs : sgT.getD k [] = [45, c]) (hu : u < 2) : (if u = 1 then ch c else "-") = ch (sg k u) := by
  unfold sg
  rw [hs]
  rcases (by omega : u = 0 ∨ u = 1) with rfl | rfl
  · rw [if_neg (by decide)]; rfl
  · rw [if_pos rfl]; rfl
theorem run_sg {x s : Nat} {k a b c : Nat} (hs : sgT.getD k [] = [45, a, b, c]) (hx : x < 2) (hh : s < 2) : (if s = 1 then (if x = 1 then ch b else ch a) else (if x = 1 then ch c else "-")) = ch (sg k (runN (x + 2 * s))) := by
  unfold sg
  rw [hs]
  rcases (by omega : x = 0 ∨ x = 1) with rfl | rfl <;> rcases (by omega : s = 0 ∨ s = 1) with rfl | rfl <;> rfl
theorem fig4 (x : Nat) : x % 8 / 4 = x / 4 % 2 := by omega
theorem fig2 (x : Nat) : x % 8 / 2 % 2 = x / 2 % 2 := by omega
theorem fig1 (x : Nat) : x % 8 % 2 = x % 2 := by omega
theorem rk_r (m c j : Nat) (hc : c < 3) (h : 8 ^ c * 4 = 2 ^ j) : rkN m (7 - 3 * c) = m / 2 ^ j % 2 := by
  rw [(rkr m c hc).1]; unfold figN; rw [fig4, Nat.div_div_eq_div_mul, h]
theorem rk_w (m c j : Nat) (hc : c < 3) (h : 8 ^ c * 2 = 2 ^ j) : rkN m (8 - 3 * c) = m / 2 ^ j % 2 := by
  rw [(rkr m c hc).2.1]; unfold figN; rw [fig2, Nat.div_div_eq_div_mul, h]
theorem rk_x (m c j : Nat) (hc : c < 3) (h : 8 ^ c = 2 ^ j) : rkN m (9 - 3 * c) = runN (m / 2 ^ j % 2 + 2 * (m / 2 ^ (9 + c) % 2)) := by
  rw [(rkr m c hc).2.2]; unfold figN aboveN; rw [fig1, h]
theorem two_lt (x : Nat) : x % 2 < 2 := Nat.mod_lt _ (by decide)
theorem sign_r {m c j k : Nat} (hc : c < 3) (h : 8 ^ c * 4 = 2 ^ j) (hk : k = 7 - 3 * c) (h0 : k ≠ 0) (hf : fmT.getD k [] = [(((2 ^ j : Nat) : Int), ch 114)]) (hs : sgT.getD k [] = [45, 114]) : signF m k = ch (sg k (rkN m k)) := by
  rw [show rkN m k = m / 2 ^ j % 2 by rw [hk]; exact rk_r m c j hc h]
  exact (sign_b (n := j) (c := ch 114) h0 hf).trans (bit_sg hs (two_lt _))
theorem sign_w {m c j k : Nat} (hc : c < 3) (h : 8 ^ c * 2 = 2 ^ j) (hk : k = 8 - 3 * c) (h0 : k ≠ 0) (hf : fmT.getD k [] = [(((2 ^ j : Nat) : Int), ch 119)]) (hs : sgT.getD k [] = [45, 119]) : signF m k = ch (sg k (rkN m k)) := by
  rw [show rkN m k = m / 2 ^ j % 2 by rw [hk]; exact rk_w m c j hc h]
  exact (sign_b (n := j) (c := ch 119) h0 hf).trans (bit_sg hs (two_lt _))
theorem sign_at {m : Nat} (hm : m < 65536) : ∀ k, k < 10 → signF m k = ch (sg k (rkN m k)) := fun k hk => by
  rcases ten k hk with rfl | rfl | rfl | rfl | rfl | rfl | rfl | rfl | rfl | rfl
  · exact sign_0 hm
  · exact sign_r (c := 2) (j := 8) (by decide) (by decide) rfl (by decide) rfl rfl
  · exact sign_w (c := 2) (j := 7) (by decide) (by decide) rfl (by decide) rfl rfl
  · rw [show rkN m 3 = _ from rk_x m 2 6 (by decide) (by decide)]
    exact (sign_x (lo := 6) (hi := 11) (c0 := ch 115) (c1 := ch 83) (c2 := ch 120) (by decide) rfl (by decide) (by decide) (by decide)).trans (run_sg rfl (two_lt _) (two_lt _))
  · exact sign_r (c := 1) (j := 5) (by decide) (by decide) rfl (by decide) rfl rfl
  · exact sign_w (c := 1) (j := 4) (by decide) (by decide) rfl (by decide) rfl rfl
  · rw [show rkN m 6 = _ from rk_x m 1 3 (by decide) (by decide)]
    exact (sign_x (lo := 3) (hi := 10) (c0 := ch 115) (c1 := ch 83) (c2 := ch 120) (by decide) rfl (by decide) (by decide) (by decide)).trans (run_sg rfl (two_lt _) (two_lt _))
  · exact sign_r (c := 0) (j := 2) (by decide) (by decide) rfl (by decide) rfl rfl
  · exact sign_w (c := 0) (j := 1) (by decide) (by decide) rfl (by decide) rfl rfl
  · rw [show rkN m 9 = _ from rk_x m 0 0 (by decide) (by decide)]
    exact (sign_x (lo := 0) (hi := 9) (c0 := ch 116) (c1 := ch 84) (c2 := ch 120) (by decide) rfl (by decide) (by decide) (by decide)).trans (run_sg rfl (two_lt _) (two_lt _))
theorem filemode_tx {m : Nat} (hm : m < 65536) : filemodeS m = tx (rkN m) := by
  unfold filemodeS
  rw [join_nil]
  unfold tx
  congr 1
  unfold signsF txL
  rw [List.flatMap_map]
  rw [show (List.range 10).flatMap (fun a => (signF m a).cps.toList) = (List.range 10).flatMap (fun a => [sg a (rkN m a)]) from ?_]
  · exact List.map_eq_flatMap.symm
  · rw [List.flatMap_def, List.flatMap_def]
    congr 1
    exact List.map_congr_left fun k hk => by rw [sign_at hm k (List.mem_range.mp hk)]
theorem tx_congr {r q : Nat → Nat} (h : ∀ k, k < 10 → r k = q k) : tx r = tx q := by
  unfold tx txL
  congr 1
  exact List.map_congr_left fun k hk => by rw [h k (List.mem_range.mp hk)]
-- the mode of a row of ranks
noncomputable def mN (r : Nat → Nat) : Nat := accM r ((kindM.getD (r 0) 0).toNat * 4096) 3
theorem kindM_ok : ∀ i, i < 8 → (kindM.getD i 0).toNat < 16 ∧ (kindL.getD (kindM.getD i 0).toNat 0).toNat = i := by decide
theorem mode_parts {K F2 F1 F0 S2 S1 S0 m : Nat} (hF2 : F2 < 8) (hF1 : F1 < 8) (hF0 : F0 < 8) (h2 : S2 < 2) (h1 : S1 < 2) (h0 : S0 < 2)
    (h : m = K * 4096 + (F2 * 8 ^ 2 + S2 * 2 ^ (9 + 2)) + (F1 * 8 ^ 1 + S1 * 2 ^ (9 + 1)) + (F0 * 8 ^ 0 + S0 * 2 ^ (9 + 0))) :
    m / 4096 = K ∧ (figN m 2 = F2 ∧ aboveN m 2 = S2) ∧ (figN m 1 = F1 ∧ aboveN m 1 = S1) ∧ (figN m 0 = F0 ∧ aboveN m 0 = S0) := by
  unfold figN aboveN
  refine ⟨by omega, ⟨by omega, by omega⟩, ⟨by omega, by omega⟩, ⟨by omega, by omega⟩⟩
theorem run_back : ∀ x, x < 4 → runN (x / 2 + 2 * ((x + 1) / 2 % 2)) = x := by decide
theorem rk_mode {r : Nat → Nat} (hr : Vld r) : mN r < 65536 ∧ ∀ k, k < 10 → rkN (mN r) k = r k := by
  obtain ⟨K, hK⟩ : ∃ K, K = (kindM.getD (r 0) 0).toNat := ⟨_, rfl⟩
  have h0 := hr 0 (by decide)
  rw [bd_at.1] at h0
  obtain ⟨k1, k2⟩ := kindM_ok _ h0
  rw [← hK] at k1 k2
  have hb : ∀ c, c < 3 → r (7 - 3 * c) < 2 ∧ r (8 - 3 * c) < 2 ∧ r (9 - 3 * c) < 4 := fun c hc => by
    obtain ⟨b1, b2, b3⟩ := bd_at.2 c hc
    exact ⟨b1 ▸ hr _ (by omega), b2 ▸ hr _ (by omega), b3 ▸ hr _ (by omega)⟩
  let F : Nat → Nat := fun c => 4 * r (7 - 3 * c) + 2 * r (8 - 3 * c) + r (9 - 3 * c) / 2
  let S : Nat → Nat := fun c => (r (9 - 3 * c) + 1) / 2 % 2
  have hF : ∀ c, c < 3 → F c < 8 := fun c hc => by have := hb c hc; show 4 * r (7 - 3 * c) + 2 * r (8 - 3 * c) + r (9 - 3 * c) / 2 < 8; omega
  have hS : ∀ c, S c < 2 := fun c => by show _ % 2 < 2; omega
  have hm : mN r = K * 4096 + (F 2 * 8 ^ 2 + S 2 * 2 ^ (9 + 2)) + (F 1 * 8 ^ 1 + S 1 * 2 ^ (9 + 1)) + (F 0 * 8 ^ 0 + S 0 * 2 ^ (9 + 0)) := by
    unfold mN; rw [← hK]; rfl
  obtain ⟨p0, p2, p1, p00⟩ := mode_parts (hF 2 (by decide)) (hF 1 (by decide)) (hF 0 (by decide)) (hS 2) (hS 1) (hS 0) hm
  have pc : ∀ c, c < 3 → figN (mN r) c = F c ∧ aboveN (mN r) c = S c := fun c hc => by
    rcases (by omega : c = 0 ∨ c = 1 ∨ c = 2) with rfl | rfl | rfl
    · exact p00
    · exact p1
    · exact p2
  refine ⟨?_, fun k hk => ?_⟩
  · have := hF 2 (by decide); have := hF 1 (by decide); have := hF 0 (by decide); have := hS 2; have := hS 1; have := hS 0
    generalize F 2 = f2 at *; generalize F 1 = f1 at *; generalize F 0 = f0 at *; generalize S 2 = s2 at *; generalize S 1 = s1 at *; generalize S 0 = s0 at *
    rw [hm]; omega
  · rcases place_cases hk with rfl | ⟨c, hc, rfl | rfl | rfl⟩
    · rw [rk0, p0]; exact k2
    · rw [(rkr _ c hc).1, (pc c hc).1]
      have := hb c hc
      show (4 * r (7 - 3 * c) + 2 * r (8 - 3 * c) + r (9 - 3 * c) / 2) / 4 = _
      omega
    · rw [(rkr _ c hc).2.1, (pc c hc).1]
      have := hb c hc
      show (4 * r (7 - 3 * c) + 2 * r (8 - 3 * c) + r (9 - 3 * c) / 2) / 2 % 2 = _
      omega
    · rw [(rkr _ c hc).2.2, (pc c hc).1, (pc c hc).2]
      have := hb c hc
      have e : (4 * r (7 - 3 * c) + 2 * r (8 - 3 * c) + r (9 - 3 * c) / 2) % 2 = r (9 - 3 * c) / 2 := by omega
      show runN ((4 * r (7 - 3 * c) + 2 * r (8 - 3 * c) + r (9 - 3 * c) / 2) % 2 + 2 * ((r (9 - 3 * c) + 1) / 2 % 2)) = _
      rw [e]
      exact run_back _ this.2.2
theorem filemode_mode {r : Nat → Nat} (hr : Vld r) : filemodeS (modeI r) = tx r := by
  obtain ⟨h1, h2⟩ := rk_mode hr
  show filemodeS ((mN r : Nat) : Int) = _
  rw [filemode_tx h1]
  exact tx_congr h2
end Mine
namespace Mine
open MineP
section
variable {X : Wd}
noncomputable abbrev layL : List (Str × Bool) := [("script", false), ("drawn", false), ("modes", false), ("ranks", true), ("p", true), ("middle", false), ("texts", true), ("three", false), ("i", false), ("j", false), ("ranges", false), ("k", false), ("lows", false), ("highs", false)]
noncomputable abbrev globLw : List Str := ["len", "range", "_law_mode", "_law_ranges", "translate", "_law_pattern", "_law_takes", "_law_between", "max", "min"]
noncomputable abbrev CL (g : Sg) : Cx := Bd 44 layL globLw g
theorem ItW.to {C : Cx} {σ : Sig} {iter : Expr} {N : Nat} {f f' : Nat → D} (h : ItW C σ iter N f) (e : ∀ i, i < N → f i = f' i) : ItW C σ iter N f' := fun A s Q hA O hQ =>
  h A s Q hA O fun I s' fp wr Pv St x O' K => hQ I s' fp wr Pv St x O' { K with den := fun i v hv hi => e i hi ▸ K.den i v hv hi }
theorem ItW.mapL {C : Cx} {σ : Sig} {iter : Expr} {α : Type} {l : List α} {f : α → D} (d : α) (h : EvE C σ iter (.list (l.map f))) : ItW C σ iter l.length (fun i => f (l.getD i d)) := by
  have k := ItW.list h
  rw [List.length_map] at k
  exact k.to fun i hi => by simp [hi]
theorem comp_list {α β : Type} (l : List α) (d : α) (f : α → β) : ((List.range l.length).filter fun _ => true).map (fun i => f (l.getD i d)) = l.map f := by
  rw [List.filter_eq_self.mpr fun _ _ => rfl]
  refine List.ext_getElem (by simp) fun i h1 h2 => ?_
  have hi : i < l.length := by simpa using h2
  simp [hi]
noncomputable abbrev nL (l : List Nat) : List D := l.map fun (n : Nat) => D.int n
noncomputable def drawnN (ns : List Int) : List Nat := (ns.take 4).map fun x => (x % 65536).toNat
noncomputable def modesN (ns : List Int) : List Nat := drawnN ns ++ [35309, 17828, 33785, 41471].drop (drawnN ns).length
theorem cut4 (ns : List Int) : cutL (iL ns) none (some 4) = (ns.take 4).map .int := by
  have e1 : kms_lo none (iL ns).length = 0 := rfl
  have e2 : kms_hi (some 4) (iL ns).length = min 4 ns.length := by
    unfold kms_hi
    simp
  unfold cutL
  rw [e1, e2, List.drop_zero, Nat.sub_zero, ← List.map_take]
  congr 1
  rcases Nat.le_total 4 ns.length with h | h
  · rw [Nat.min_eq_left h]
  · rw [Nat.min_eq_right h, List.take_of_length_le (Nat.le_refl _), List.take_of_length_le h]
theorem cutK {l : List Nat} {k : Nat} (hk : k ≤ l.length) : cutL (nL l) (some (k : Int)) none = nL (l.drop k) := by
  have e1 : kms_lo (some (k : Int)) (nL l).length = k := by
    unfold kms_lo
    simp
    rw [if_neg (by omega)]
    omega
  have e2 : kms_hi none (nL l).length = (nL l).length := rfl
  unfold cutL
  rw [e1, e2, ← List.map_drop, List.take_of_length_le (by simp)]
theorem drawn_len (ns : List Int) : (drawnN ns).length ≤ 4 := by
  unfold drawnN; rw [List.length_map, List.length_take]; omega
theorem modes_four (ns : List Int) : ∃ m0 m1 m2 m3, modesN ns = [m0, m1, m2, m3] ∧ m0 < 65536 ∧ m1 < 65536 ∧ m2 < 65536 ∧ m3 < 65536 := by
  have hl : (modesN ns).length = 4 := by
    have := drawn_len ns
    unfold modesN
    rw [List.length_append, List.length_drop]
    simp only [List.length_cons, List.length_nil]
    omega
  have hb : ∀ m ∈ modesN ns, m < 65536 := fun m h => by
    unfold modesN at h
    rcases List.mem_append.mp h with h | h
    · unfold drawnN at h
      obtain ⟨x, _, rfl⟩ := List.mem_map.mp h
      omega
    · have := List.mem_of_mem_drop h
      simp only [List.mem_cons, List.not_mem_nil, or_false] at this
      omega
  match hm : modesN ns, hl, hb with
  | [m0, m1, m2, m3], _, hb => exact ⟨m0, m1, m2, m3, rfl, hb _ (.head _), hb _ (.tail _ (.head _)), hb _ (.tail _ (.tail _ (.head _))), hb _ (.tail _ (.tail _ (.tail _ (.head _))))⟩
theorem fmod_nat (x : Int) : x.fmod 65536 = (((x % 65536).toNat : Nat) : Int) := by
  rw [Int.fmod_eq_emod_of_nonneg _ (by decide)]; omega
theorem iLr_get (r : Nat → Nat) {k : Nat} (hk : k < 10) : (iL (rL r))[((k : Nat) : Int).toNat]? = some (.int (r k)) := by
  rw [iL_get (by rw [rL_len]; exact hk), rL_getD r hk]
noncomputable abbrev rD (r : Nat → Nat) : D := .list (iL (rL r))
noncomputable abbrev tD (r : Nat → Nat) : D := .str (tx r)
noncomputable abbrev sigA (d0 d1 : D) (o2 o3 o5 o6 : Option Slot) : Sig := [some (.val d0), some (.val d1), o2, o3, none, o5, o6, none, none, none, none, none, none, none]
/-- from the modes on to the texts -/
theorem law_modes {g : Sg} (hP : Pg g.X) {n : Nat} (en : g.n = n + 3) (hF : FmOk (CL g).F) (d0 d1 : D) (m0 m1 m2 m3 : Nat) (h0 : m0 < 65536) (h1 : m1 < 65536) (h2 : m2 < 65536) (h3 : m3 < 65536) {P : DF → Sig → Prop}
    (k : ∀ rm : Nat → Nat, (∀ k, rm k = medN (rkN m0 k) (rkN m1 k) (rkN m2 k)) →
      WS (CL g) (sigA d0 d1 (some (.val (.list (nL [m0, m1, m2, m3])))) (some (.val (.list ([rkN m0, rkN m1, rkN m2, rkN m3, rm].map rD)))) (some (.val (rD rm))) (some (.val (.list ([rkN m0, rkN m1, rkN m2, rkN m3, rm].map tD))))) (execs ((bodyOf 44).drop 6) (CL g).env) P) :
    WS (CL g) (sigA d0 d1 (some (.val (.list (nL [m0, m1, m2, m3])))) none none none) (execs ((bodyOf 44).drop 2) (CL g).env) P := by
  have hv : ∀ {m}, m < 65536 → Vld (rkN m) := fun h => rk_vld h
  refine WS.cons (WS.assign_own hF (i := 3) (ds := [m0, m1, m2, m3].map fun m => rD (rkN m)) rfl ((EvN.compX (N := [m0, m1, m2, m3].length) (f := fun i => .int (([m0, m1, m2, m3].getD i 0 : Nat) : Int)) (p := fun _ => true) (g := fun i => rD (rkN ([m0, m1, m2, m3].getD i 0))) (frees := []) (globc := ["_law_ranks"]) hF .nil
    (ItW.mapL 0 (f := fun (n : Nat) => D.int n) (EvE.name hF (i := 2) rfl rfl)) (fun L Dl k hc hk => TestsOk.nil) (fun L Dl k hc hk _ => ?_) (show _ ≤ 1000 from Nat.le_of_ble_eq_true rfl)).to (comp_list [m0, m1, m2, m3] 0 fun m => rD (rkN m))) fun a => ?_)
  · have hb : [m0, m1, m2, m3].getD k 0 < 65536 := by
      have : k < 4 := hk
      rcases (by omega : k = 0 ∨ k = 1 ∨ k = 2 ∨ k = 3) with rfl | rfl | rfl | rfl <;> assumption
    exact (EvE.def_ hP.x hc hP.f_ranks (m := n + 1) (by show n + 1 ≤ g.n; omega) (fn_ranks hP _ hb) (.cons (EvE.name hc (i := 0) rfl rfl) .nil rfl)).to (by rw [ranksI_eq])
  obtain ⟨rm, hrm⟩ : ∃ rm : Nat → Nat, rm = fun k => medN (rkN m0 k) (rkN m1 k) (rkN m2 k) := ⟨_, rfl⟩
  have hvm : Vld rm := fun k hk => by rw [hrm]; exact med_lt (hv h0 k hk) (hv h1 k hk) (hv h2 k hk)
  have hmid : ((List.range 10).filter fun _ => true).map (fun i => D.int ((rm i : Nat) : Int)) = iL (rL rm) := by
    rw [List.filter_eq_self.mpr fun _ _ => rfl]
    show _ = ((List.range 10).map fun i => (rm i : Int)).map D.int
    rw [List.map_map]; rfl
  refine WS.cons (WS.compX (N := 10) (i := 5) (f := fun i => .int i) (p := fun _ => true) (g := fun i => .int ((rm i : Nat) : Int)) (frees := ["ranks"]) (globc := ["sorted"]) hF rfl (.cons (i := 3) rfl rfl (.own a _) .nil)
    (ItW.rangeN (EvR.one (EvV.bi hP.x hF hP.b_range) EvE.int) (by decide)) (fun L Dl k hc hk => TestsOk.nil) (fun L Dl k hc hk _ => ?_) (by decide) ?_)
  · have ix : ∀ {C : Cx} {σ : Sig} {y : Str} {py p q q' : Pos} {w : Nat} {j : Int} {r : Nat → Nat} {ds : List D}, FmOk C.F → C.F.lay[0]? = some (("p" : Str), false) → σ[0]? = some (some (.val (.int k))) → C.F.lay[1]? = some (y, true) → σ[1]? = some (some (.ro a ds)) → 0 ≤ j → j < 2 ^ 63 → ds[j.toNat]? = some (rD r) → EvE C σ (.Subscript (.Subscript (.Name y py) (.Constant (.int j) w p) q) (.Name "p" p) q') (.int (r k)) := fun hc l0 s0 l1 s1 j0 j1 hd =>
      EvE.item_list (EvE.l (EvE.item_list (EvL.ro hc l1 s1) EvE.int j0 j1 hd)) (EvE.name hc (i := 0) l0 s0) (by omega) (by omega) (iLr_get _ hk)
    have ix' : ∀ {C : Cx} {σ : Sig} {y : Str} {py p p' q q' : Pos} {w : Nat} {j : Int} {r : Nat → Nat} {ds : List D}, FmOk C.F → C.F.lay[0]? = some (("p" : Str), false) → σ[0]? = some (some (.val (.int k))) → C.F.lay[1]? = some (y, true) → σ[1]? = some (some (.ro a ds)) → 0 ≤ j → j < 2 ^ 63 → ds[j.toNat]? = some (rD r) → EvE C σ (.Subscript (.Subscript (.Name y py) (.Constant (.int j) w p) q) (.Name "p" p') q') (.int (r k)) := fun hc l0 s0 l1 s1 j0 j1 hd =>
      EvE.item_list (EvE.l (EvE.item_list (EvL.ro hc l1 s1) EvE.int j0 j1 hd)) (EvE.name hc (i := 0) l0 s0) (by omega) (by omega) (iLr_get _ hk)
    refine (EvE.item_list (EvE.l (EvE.callV (EvV.bi hP.x hc hP.b_sorted) trivial (.cons (EvN.e (EvN.list (ds := inL [((rkN m0 k : Nat) : Int), ((rkN m1 k : Nat) : Int), ((rkN m2 k : Nat) : Int)]) (.cons (ix' hc rfl rfl rfl rfl (by decide) (by decide) rfl) (.cons (ix' hc rfl rfl rfl rfl (by decide) (by decide) rfl) (.cons (ix' hc rfl rfl rfl rfl (by decide) (by decide) rfl) .nil rfl) rfl) rfl) (le_size rfl))) .nil rfl)
      (OpC.sorted (by decide : 3 < 64) (sort3_only _ _ _)))) EvE.int (by decide) (by decide) (sort3_get _ _ _)).to ?_
    rw [hrm]
  rw [hmid]
  refine WS.cons (WS.append hF (i := 3) rfl rfl (noRo_of rfl) (EvE.name hF (i := 5) rfl rfl) (le_size rfl) ?_)
  have hmode : ∀ {r : Nat → Nat}, Vld r → r 0 < 8 := fun h => by have := h 0 (by decide); rw [bd_at.1] at this; exact this
  refine WS.cons (WS.freeze (i := 3) rfl (WS.assign hF (i := 6) (d := .list ([rkN m0, rkN m1, rkN m2, rkN m3, rm].map tD)) rfl (EvN.e ((EvN.compX (N := [(m0 : Int), m1, m2, m3, modeI rm].length) (f := fun i => .int ([(m0 : Int), m1, m2, m3, modeI rm].getD i 0)) (p := fun _ => true) (g := fun i => .str (filemodeS ([(m0 : Int), m1, m2, m3, modeI rm].getD i 0))) (frees := []) (globc := ["filemode"]) hF .nil
    (ItW.mapL 0 (f := D.int) (EvN.e (EvN.to (EvN.addL (ds := nL [m0, m1, m2, m3]) (es := [D.int (modeI rm)]) (EvE.l (EvE.name hF (i := 2) rfl rfl)) (EvN.l (EvN.list (.cons (EvE.def_ hP.x hF hP.f_mode (m := n + 1) (by show n + 1 ≤ g.n; omega) (fn_mode hP rm (hmode hvm)) (.cons (EvE.name hF (i := 5) rfl rfl) .nil rfl)) .nil rfl) (le_size rfl))) (le_size rfl)) rfl))) (fun L Dl k hc hk => TestsOk.nil) (fun L Dl k hc hk _ => ?_) (show _ ≤ 1000 from Nat.le_of_ble_eq_true rfl)).to ?_)) ?_))
  · exact EvE.def_ hP.x hc hP.f_filemode (m := n + 2) (by show n + 2 ≤ g.n; omega) (fn_filemode hP _) (.cons (EvE.name hc (i := 0) rfl rfl) .nil rfl)
  · rw [comp_list [(m0 : Int), m1, m2, m3, modeI rm] 0 fun m => D.str (filemodeS m)]
    show [D.str (filemodeS (m0 : Int)), D.str (filemodeS (m1 : Int)), D.str (filemodeS (m2 : Int)), D.str (filemodeS (m3 : Int)), D.str (filemodeS (modeI rm))] = _
    rw [filemode_tx h0, filemode_tx h1, filemode_tx h2, filemode_tx h3, filemode_mode hvm]
    rfl
  · exact k rm fun k => by rw [hrm]
end
end Mine
namespace Mine
open MineP
section
variable {X : Wd}
noncomputable abbrev zR : Nat → Nat := fun _ => 0
noncomputable abbrev rgD (r q : Nat → Nat) : D := .list (rgL (rgsOf (loN r q) (hiN r q) 10))
noncomputable abbrev sigB (T : List (Nat → Nat)) (d0 d1 d2 d5 : D) (a : Addr) (ds : List D) (o8 o9 o10 o11 : Option D) : Sig :=
  [some (.val d0), some (.val d1), some (.val d2), some (.val (.list (T.map rD))), none, some (.val d5), some (.val (.list (T.map tD))), some (.own a ds), ov o8, ov o9, ov o10, ov o11, none, none]
theorem noRo_B {T : List (Nat → Nat)} {d0 d1 d2 d5 : D} {a : Addr} {ds : List D} {o8 o9 o10 o11 : Option D} : NoRo (sigB T d0 d1 d2 d5 a ds o8 o9 o10 o11) := noRo_of (by cases o8 <;> cases o9 <;> cases o10 <;> cases o11 <;> rfl)
theorem getT (T : List (Nat → Nat)) (f : (Nat → Nat) → D) {i : Nat} (hi : i < T.length) : (T.map f)[((i : Nat) : Int).toNat]? = some (f (T.getD i zR)) := by simp [hi]
theorem vT {T : List (Nat → Nat)} (hv : ∀ r ∈ T, Vld r) {i : Nat} (hi : i < T.length) : Vld (T.getD i zR) := by
  have e : T.getD i zR = T[i] := by simp [hi]
  rw [e]; exact hv _ (List.getElem_mem hi)
theorem rgs_len (lo hi : Nat → Nat) (n : Nat) : (rgsOf lo hi n).length = n := by simp [rgsOf]
/-- one pair of the three -/
theorem turn_three {g : Sg} (hP : Pg g.X) {n : Nat} (en : g.n = n + 3) (hF : FmOk (CL g).F) (T : List (Nat → Nat)) (hT : T.length = 5) (hv : ∀ r ∈ T, Vld r) (d0 d1 d2 d5 : D) (a : Addr) (ds : List D) (hds : ds.length ≤ 100) (i j : Nat) (hi : i < 5) (hj : j < 5) (o10 o11 : Option D) :
    WS (CL g) (sigB T d0 d1 d2 d5 a ds (some (.int i)) (some (.int j)) o10 o11) (execs (forBody 44 7) (CL g).env)
      (fun df σ' => df = .next ∧ ∃ o10 o11, σ' = sigB T d0 d1 d2 d5 a (ds ++ [rgD (T.getD i zR) (T.getD j zR)]) (some (.int i)) (some (.int j)) o10 o11) := by
  have hr : Vld (T.getD i zR) := vT hv (by omega)
  have hq : Vld (T.getD j zR) := vT hv (by omega)
  obtain ⟨f1, f2, f3⟩ := fn_three hP (n := n) hr hq
  have hi' : i < T.length := by omega
  have hj' : j < T.length := by omega
  refine WS.cons (WS.assign hF (i := 10) (d := rgD (T.getD i zR) (T.getD j zR)) rfl (EvE.def_ hP.x hF hP.f_ranges (m := n + 2) (by show n + 2 ≤ g.n; omega) f3
    (.cons (EvE.def_ hP.x hF hP.f_translate (m := n + 3) (by show n + 3 ≤ g.n; omega) f2
      (.cons (EvE.def_ hP.x hF hP.f_pattern (m := n + 2) (by show n + 2 ≤ g.n; omega) f1
        (.cons (EvE.item_list (EvE.l (EvE.name hF (i := 6) rfl rfl)) (EvE.name hF (i := 8) rfl rfl) (by omega) (by omega) (getT T tD hi')) (.cons (EvE.item_list (EvE.l (EvE.name hF (i := 6) rfl rfl)) (EvE.name hF (i := 9) rfl rfl) (by omega) (by omega) (getT T tD hj')) .nil rfl) rfl)) .nil rfl)) .nil rfl)) ?_)
  refine WS.cons (WS.for_ (N := 5) (fun k σ' => ∃ o11, σ' = sigB T d0 d1 d2 d5 a ds (some (.int i)) (some (.int j)) (some (rgD (T.getD i zR) (T.getD j zR))) o11)
    (EvIt.walk (ItW.rangeN (EvR.one (EvV.bi hP.x hF hP.b_range) EvE.int) (by decide)) (fun k hk => Asg.name hF (i := 11) rfl) fun k σ' => setTo_own _ _ _) ⟨o11, rfl⟩ (fun k σ' hk hI => ?_) fun σ' hI => ?_)
  · obtain ⟨o11', rfl⟩ := hI
    have hk' : k < T.length := by omega
    have hs : Vld (T.getD k zR) := vT hv hk'
    refine WS.cons (WS.if_f ((EvT.cmp
      (EvE.def_ hP.x hF hP.f_takes (m := n + 1) (by show n + 1 ≤ g.n; omega) (fn_takes hP (rgsOf (loN (T.getD i zR) (T.getD j zR)) (hiN (T.getD i zR) (T.getD j zR)) 10) (tx (T.getD k zR)) (by rw [rgs_len, tx_len]) (by rw [tx_len]; decide))
        (.cons (EvE.name hF (i := 10) rfl rfl) (.cons (EvE.item_list (EvE.l (EvE.name hF (i := 6) rfl rfl)) (EvE.name hF (i := 11) rfl rfl) (by omega) (by omega) (getT T tD hk')) .nil rfl) rfl))
      (EvE.def_ hP.x hF hP.f_between (m := n + 1) (by show n + 1 ≤ g.n; omega) (fn_between hP (rL (T.getD i zR)) (rL (T.getD k zR)) (rL (T.getD j zR)) (rL_len _) (rL_len _) (rL_len _))
        (.cons (EvE.item_list (EvE.l (EvE.name hF (i := 3) rfl rfl)) (EvE.name hF (i := 8) rfl rfl) (by omega) (by omega) (getT T rD hi')) (.cons (EvE.item_list (EvE.l (EvE.name hF (i := 3) rfl rfl)) (EvE.name hF (i := 11) rfl rfl) (by omega) (by omega) (getT T rD hk')) (.cons (EvE.item_list (EvE.l (EvE.name hF (i := 3) rfl rfl)) (EvE.name hF (i := 9) rfl rfl) (by omega) (by omega) (getT T rD hj')) .nil rfl) rfl) rfl)) OpB.ne_bool).to ?_) (WS.nil (WS.nil ?_)))
    · rw [takes_between hr hq hs]; simp
    · exact ⟨some (.int k), rfl⟩
  · obtain ⟨o11', rfl⟩ := hI
    refine WS.nil ?_
    exact WS.cons (WS.append hF (i := 7) rfl rfl noRo_B (EvE.name hF (i := 10) rfl rfl) (by rw [sizeLine_eq]; omega) (WS.nil ⟨rfl, some (rgD (T.getD i zR) (T.getD j zR)), o11', rfl⟩))
end
end Mine
namespace Mine
open MineP
section
variable {X : Wd}
noncomputable def iI (i : Nat) : Nat := [0, 1, 0].getD i 0
noncomputable def iJ (i : Nat) : Nat := [1, 2, 2].getD i 0
theorem iIJ : ∀ i, i < 3 → iI i < 5 ∧ iJ i < 5 := by decide
noncomputable def threeL (T : List (Nat → Nat)) (n : Nat) : List D := (List.range n).map fun i => rgD (T.getD (iI i) zR) (T.getD (iJ i) zR)
theorem threeL_succ (T : List (Nat → Nat)) (n : Nat) : threeL T (n + 1) = threeL T n ++ [rgD (T.getD (iI n) zR) (T.getD (iJ n) zR)] := by
  unfold threeL; rw [List.range_succ, List.map_append]; rfl
theorem threeL_len (T : List (Nat → Nat)) (n : Nat) : (threeL T n).length = n := by simp [threeL]
theorem rg_get (r q : Nat → Nat) {k : Nat} (hk : k < 10) : (rgL (rgsOf (loN r q) (hiN r q) 10))[((k : Nat) : Int).toNat]? = some (.tuple [.str (ch (loN r q k)), .str (ch (hiN r q k))]) := by
  simp [rgsOf, hk]
noncomputable abbrev sigP3 (T : List (Nat → Nat)) (d0 d1 d2 d5 : D) (ds : List D) (o4 o8 o9 o10 o11 o12 o13 : Option D) : Sig :=
  [some (.val d0), some (.val d1), some (.val d2), some (.val (.list (T.map rD))), ov o4, some (.val d5), some (.val (.list (T.map tD))), some (.val (.list ds)), ov o8, ov o9, ov o10, ov o11, ov o12, ov o13]
/-- one place of the last loop -/
theorem turn_place {g : Sg} (hP : Pg g.X) {n : Nat} (en : g.n = n + 3) (hF : FmOk (CL g).F) (r0 r1 r2 r3 r4 : Nat → Nat) (v0 : Vld r0) (v1 : Vld r1) (v2 : Vld r2) (hm : ∀ k, r4 k = medN (r0 k) (r1 k) (r2 k)) (d0 d1 d2 d5 : D) (p : Nat) (hp : p < 10) (o8 o9 o10 o11 o12 o13 : Option D) :
    WS (CL g) (sigP3 [r0, r1, r2, r3, r4] d0 d1 d2 d5 ([(r0, r1), (r1, r2), (r0, r2)].map fun pr => rgD pr.1 pr.2) (some (.int p)) o8 o9 o10 o11 o12 o13) (execs (forBody 44 8) (CL g).env)
      (fun df σ' => df = .next ∧ ∃ o12 o13, σ' = sigP3 [r0, r1, r2, r3, r4] d0 d1 d2 d5 ([(r0, r1), (r1, r2), (r0, r2)].map fun pr => rgD pr.1 pr.2) (some (.int p)) o8 o9 o10 o11 o12 o13) := by
  have s4 : ∀ {q : Nat}, q = medN (r0 p) (r1 p) (r2 p) → sg p q = sg p (r4 p) := fun h => by rw [h, hm]
  refine WS.cons (WS.unpackS hF (names := ["lows", "highs"]) (is := [13, 12]) (ds := [.list (sL [ch (loN r0 r1 p), ch (loN r1 r2 p), ch (loN r0 r2 p)]), .list (sL [ch (hiN r0 r1 p), ch (hiN r1 r2 p), ch (hiN r0 r2 p)])]) rfl (EvU.tuple (EvE.tuple
    (.cons (EvN.e ((EvN.compX (N := 3) (f := fun i => (fun pr : (Nat → Nat) × (Nat → Nat) => rgD pr.1 pr.2) ([(r0, r1), (r1, r2), (r0, r2)].getD i (zR, zR))) (p := fun _ => true) (g := fun i => .str (ch (loN ([(r0, r1), (r1, r2), (r0, r2)].getD i (zR, zR)).1 ([(r0, r1), (r1, r2), (r0, r2)].getD i (zR, zR)).2 p))) (frees := ["p"]) (globc := []) hF (.cons (i := 4) rfl rfl (.val (.int p)) .nil)
        (ItW.mapL (l := [(r0, r1), (r1, r2), (r0, r2)]) (f := fun pr : (Nat → Nat) × (Nat → Nat) => rgD pr.1 pr.2) (zR, zR) (EvE.name hF (i := 7) rfl rfl)) (fun L Dl k hc hk => TestsOk.nil) (fun L Dl k hc hk _ => EvE.item_tuple (EvE.item_list (EvE.l (EvE.name hc (i := 0) rfl rfl)) (EvE.name hc (i := 1) rfl rfl) (by omega) (by omega) (rg_get _ _ hp)) EvE.int (by decide) (by decide) rfl) (by decide)).to
        (comp_list [(r0, r1), (r1, r2), (r0, r2)] (zR, zR) fun pr => D.str (ch (loN pr.1 pr.2 p)))))
    (.cons (EvN.e ((EvN.compX (N := 3) (f := fun i => (fun pr : (Nat → Nat) × (Nat → Nat) => rgD pr.1 pr.2) ([(r0, r1), (r1, r2), (r0, r2)].getD i (zR, zR))) (p := fun _ => true) (g := fun i => .str (ch (hiN ([(r0, r1), (r1, r2), (r0, r2)].getD i (zR, zR)).1 ([(r0, r1), (r1, r2), (r0, r2)].getD i (zR, zR)).2 p))) (frees := ["p"]) (globc := []) hF (.cons (i := 4) rfl rfl (.val (.int p)) .nil)
        (ItW.mapL (l := [(r0, r1), (r1, r2), (r0, r2)]) (f := fun pr : (Nat → Nat) × (Nat → Nat) => rgD pr.1 pr.2) (zR, zR) (EvE.name hF (i := 7) rfl rfl)) (fun L Dl k hc hk => TestsOk.nil) (fun L Dl k hc hk _ => EvE.item_tuple (EvE.item_list (EvE.l (EvE.name hc (i := 0) rfl rfl)) (EvE.name hc (i := 1) rfl rfl) (by omega) (by omega) (rg_get _ _ hp)) EvE.int (by decide) (by decide) rfl) (by decide)).to
        (comp_list [(r0, r1), (r1, r2), (r0, r2)] (zR, zR) fun pr => D.str (ch (hiN pr.1 pr.2 p))))) .nil rfl) rfl) (le_size rfl))) (.bindN rfl (.bindN rfl .nil)) rfl rfl ?_)
  have txt : ∀ {σ : Sig} {y : Str} {py q q' pp kp : Pos} {w : Nat}, (CL g).F.lay[6]? = some (y, true) → σ[6]? = some (some (.val (.list ([r0, r1, r2, r3, r4].map tD)))) → σ[4]? = some (some (.val (.int p))) → EvE (CL g) σ (.Subscript (.Subscript (.Name y py) (.Constant (.int 4) w kp) q) (.Name "p" pp) q') (.str (ch (sg p (r4 p)))) := fun l6 s6 s4 =>
    EvE.item_str (EvE.item_list (EvE.l (EvE.name hF l6 s6)) EvE.int (by decide) (by decide) (d := tD r4) rfl) (EvE.name hF (i := 4) rfl s4) (by omega) (by omega) (tx_get r4 hp)
  refine WS.cons (WS.if_f ((EvT.or2 (c := false) (d := false)
    ((EvT.cmp ((EvE.callV (EvV.bi hP.x hF hP.b_max) trivial (.cons (EvE.name hF (i := 12) rfl rfl) .nil rfl) (OpC.max_strs (xs := [ch (loN r0 r1 p), ch (loN r1 r2 p), ch (loN r0 r2 p)]) (Nat.zero_lt_succ 2))).to ((congrArg D.str (max3 _ _ _)).trans (by rw [lows_max v0 v1 v2 hp, s4 rfl]))) (txt rfl rfl rfl) OpB.ne_str).to (by simp))
    fun _ => ((EvT.cmp ((EvE.callV (EvV.bi hP.x hF hP.b_min) trivial (.cons (EvE.name hF (i := 13) rfl rfl) .nil rfl) (OpC.min_strs (xs := [ch (hiN r0 r1 p), ch (hiN r1 r2 p), ch (hiN r0 r2 p)]) (Nat.zero_lt_succ 2))).to ((congrArg D.str (min3 _ _ _)).trans (by rw [highs_min v0 v1 v2 hp, s4 rfl]))) (txt rfl rfl rfl) OpB.ne_str).to (by simp)))) (WS.nil (WS.nil ⟨rfl, some (.list (sL [ch (loN r0 r1 p), ch (loN r1 r2 p), ch (loN r0 r2 p)])), some (.list (sL [ch (hiN r0 r1 p), ch (hiN r1 r2 p), ch (hiN r0 r2 p)])), rfl⟩)))
end
end Mine
namespace Mine
open MineP
section
variable {X : Wd}
set_option maxHeartbeats 4000000 in
theorem law_end {g : Sg} (hP : Pg g.X) {n : Nat} (en : g.n = n + 3) (hF : FmOk (CL g).F) (r0 r1 r2 r3 r4 : Nat → Nat) (hv : ∀ r ∈ [r0, r1, r2, r3, r4], Vld r) (hm : ∀ k, r4 k = medN (r0 k) (r1 k) (r2 k)) (d0 d1 d2 d5 : D) :
    WS (CL g) (sigA d0 d1 (some (.val d2)) (some (.val (.list ([r0, r1, r2, r3, r4].map rD)))) (some (.val d5)) (some (.val (.list ([r0, r1, r2, r3, r4].map tD))))) (execs ((bodyOf 44).drop 6) (CL g).env) (fun df _ => df = .ret (.bool true)) := by
  have v0 := hv r0 (.head _)
  have v1 := hv r1 (.tail _ (.head _))
  have v2 := hv r2 (.tail _ (.tail _ (.head _)))
  refine WS.cons (WS.assign_own hF (i := 7) rfl (EvN.list .nil (le_size rfl)) fun a => ?_)
  have it : ∀ σ, ItW (CL g) σ (match forParts 44 7 with | some (_, it, _, _) => it | none => .Constant .none 0 default) 3 (fun i => .tuple [.int ((iI i : Nat) : Int), .int ((iJ i : Nat) : Int)]) := fun σ =>
    (ItW.tuple (ds := [.tuple [.int 0, .int 1], .tuple [.int 1, .int 2], .tuple [.int 0, .int 2]]) (EvE.tuple (.cons (EvE.tuple (.cons EvE.int (.cons EvE.int .nil rfl) rfl) (le_size rfl)) (.cons (EvE.tuple (.cons EvE.int (.cons EvE.int .nil rfl) rfl) (le_size rfl)) (.cons (EvE.tuple (.cons EvE.int (.cons EvE.int .nil rfl) rfl) (le_size rfl)) .nil rfl) rfl) rfl) (le_size rfl))).to fun i hi => by
      have : i < 3 := hi
      rcases (by omega : i = 0 ∨ i = 1 ∨ i = 2) with rfl | rfl | rfl <;> rfl
  refine WS.cons (WS.for_ (N := 3) (fun i σ' => ∃ o8 o9 o10 o11, σ' = sigB [r0, r1, r2, r3, r4] d0 d1 d2 d5 a (threeL [r0, r1, r2, r3, r4] i) o8 o9 o10 o11)
    (EvIt.walk (upd := fun i σ' => setTo 9 (.int ((iJ i : Nat) : Int)) (setTo 8 (.int ((iI i : Nat) : Int)) σ')) (it _) (fun i hi => Asg.pair hF (i := 8) (j := 9) rfl rfl) fun i σ' a ha => setTo_own _ _ _ _ (setTo_own _ _ _ _ ha)) ⟨none, none, none, none, rfl⟩ (fun i σ' hi hI => ?_) fun σ' hI => ?_)
  · obtain ⟨o8, o9, o10, o11, rfl⟩ := hI
    obtain ⟨h1, h2⟩ := iIJ i hi
    refine WS.mono (turn_three hP en hF [r0, r1, r2, r3, r4] rfl hv d0 d1 d2 d5 a (threeL [r0, r1, r2, r3, r4] i) (by rw [threeL_len]; omega) (iI i) (iJ i) h1 h2 o10 o11) fun df σ'' ⟨h1, o10, o11, h2⟩ => ?_
    subst h1 h2
    rw [← threeL_succ]
    exact ⟨_, _, _, _, rfl⟩
  · obtain ⟨o8, o9, o10, o11, rfl⟩ := hI
    refine WS.nil ?_
    have e3 : threeL [r0, r1, r2, r3, r4] 3 = [(r0, r1), (r1, r2), (r0, r2)].map fun pr => rgD pr.1 pr.2 := rfl
    rw [e3]
    refine WS.cons (WS.freeze (i := 7) rfl (WS.for_ (N := 10) (fun i σ' => ∃ o4 o12 o13, σ' = sigP3 [r0, r1, r2, r3, r4] d0 d1 d2 d5 ([(r0, r1), (r1, r2), (r0, r2)].map fun pr => rgD pr.1 pr.2) o4 o8 o9 o10 o11 o12 o13)
      (EvIt.walk (ItW.rangeN (EvR.one (EvV.bi hP.x hF hP.b_range) EvE.int) (by decide)) (fun k hk => Asg.name hF (i := 4) rfl) fun k σ' => setTo_own _ _ _) ⟨none, none, none, rfl⟩ (fun p σ' hp hI => ?_) fun σ' hI => ?_))
    · obtain ⟨o4, o12, o13, rfl⟩ := hI
      refine WS.mono (turn_place hP en hF r0 r1 r2 r3 r4 v0 v1 v2 hm d0 d1 d2 d5 p hp o8 o9 o10 o11 o12 o13) fun df σ'' ⟨h1, o12, o13, h2⟩ => ?_
      subst h1 h2
      exact ⟨some (.int p), o12, o13, rfl⟩
    · obtain ⟨o4, o12, o13, rfl⟩ := hI
      refine WS.nil ?_
      refine WS.cons (WS.ret (EvE.cmp (EvN.e (EvN.comp2X (N := 5) (N2 := 5) (f := fun i => .int i) (f2 := fun i => .int i) (frees := ["ranks", "texts"]) (globc := ["range", "_law_ordered"]) hF
        (.cons (i := 3) rfl rfl (.val (.list ([r0, r1, r2, r3, r4].map rD))) (.cons (i := 6) rfl rfl (.val (.list ([r0, r1, r2, r3, r4].map tD))) .nil))
        (ItW.rangeN (EvR.one (EvV.bi hP.x hF hP.b_range) EvE.int) (by decide)) (fun L Dl k sy hc hk => ItW.rangeN (EvR.one (EvV.bi hP.x hc hP.b_range) EvE.int) (by decide)) fun L Dl k j hc hk hj => ?_)) (EvN.e (EvN.list .nil (le_size rfl))) OpB.eq_nil) rfl)
      have hk' : k < [r0, r1, r2, r3, r4].length := hk
      have hj' : j < [r0, r1, r2, r3, r4].length := hj
      refine TestsOk.one ((EvT.not (EvT.val (c := true) ((EvE.def_ hP.x hc hP.f_ordered (m := n + 2) (by show n + 2 ≤ g.n; omega) (fn_ordered hP (tx ([r0, r1, r2, r3, r4].getD k zR)) (tx ([r0, r1, r2, r3, r4].getD j zR)) (rL ([r0, r1, r2, r3, r4].getD k zR)) (rL ([r0, r1, r2, r3, r4].getD j zR)) (by rw [rL_len, rL_len]))
        (.cons (EvE.item_list (EvE.l (EvE.name hc (i := 3) rfl rfl)) (EvE.name hc (i := 0) rfl rfl) (by omega) (by omega) (getT [r0, r1, r2, r3, r4] tD hk'))
        (.cons (EvE.item_list (EvE.l (EvE.name hc (i := 3) rfl rfl)) (EvE.name hc (i := 1) rfl rfl) (by omega) (by omega) (getT [r0, r1, r2, r3, r4] tD hj'))
        (.cons (EvE.item_list (EvE.l (EvE.name hc (i := 2) rfl rfl)) (EvE.name hc (i := 0) rfl rfl) (by omega) (by omega) (getT [r0, r1, r2, r3, r4] rD hk'))
        (.cons (EvE.item_list (EvE.l (EvE.name hc (i := 2) rfl rfl)) (EvE.name hc (i := 1) rfl rfl) (by omega) (by omega) (getT [r0, r1, r2, r3, r4] rD hj')) .nil rfl) rfl) rfl) rfl)).to (d' := .bool true) ?_) rfl (fun x e => nomatch e))).to rfl)
      rw [tx_order (vT hv hk') (vT hv hj')]
      simp
/-- the law's body -/
theorem law_body {g : Sg} (hP : Pg g.X) {n : Nat} (en : g.n = n + 3) (hF : FmOk (CL g).F) (ns : List Int) (hl : ns.length ≤ 63) :
    WS (CL g) (sig0 [.list (iL ns)] 13) (execs (bodyOf 44) (CL g).env) (fun df _ => df = .ret (.bool true)) := by
  have hz : (iL ns).length ≤ sizeLine := by rw [List.length_map, sizeLine_eq]; omega
  refine WS.cons (WS.compX (N := (ns.take 4).length) (i := 1) (f := fun i => .int ((ns.take 4).getD i 0)) (p := fun _ => true) (g := fun i => (fun x : Int => D.int (((x % 65536).toNat : Nat) : Int)) ((ns.take 4).getD i 0)) (frees := []) (globc := []) hF rfl .nil
    (ItW.mapL (l := ns.take 4) (f := D.int) 0 (EvN.e ((EvN.slice (EvE.l (EvE.name hF (i := 0) rfl rfl)) .none (.some EvE.int) hz).to (cut4 ns)))) (fun L Dl k hc hk => TestsOk.nil) (fun L Dl k hc hk _ => (EvE.bin (EvE.name hc (i := 0) rfl rfl) EvE.int (OpB.mod_int (by decide))).to (by rw [fmod_nat])) (by rw [List.length_take]; omega) ?_)
  have ed : ((List.range (ns.take 4).length).filter fun _ => true).map (fun i => (fun x : Int => D.int (((x % 65536).toNat : Nat) : Int)) ((ns.take 4).getD i 0)) = nL (drawnN ns) := by
    rw [comp_list (ns.take 4) 0 fun x : Int => D.int (((x % 65536).toNat : Nat) : Int)]
    unfold drawnN
    show _ = ((ns.take 4).map fun x => (x % 65536).toNat).map fun (n : Nat) => D.int n
    rw [List.map_map]; rfl
  rw [ed]
  have hd := drawn_len ns
  have hdl : (nL (drawnN ns)).length = (drawnN ns).length := List.length_map ..
  refine WS.cons (WS.assign hF (i := 2) (d := .list (nL (modesN ns))) rfl (EvN.e ((EvN.addL (ds := nL (drawnN ns)) (es := nL ([35309, 17828, 33785, 41471].drop (drawnN ns).length)) (EvE.l (EvE.name hF (i := 1) rfl rfl)) (EvN.l ((EvN.slice (ds := nL [35309, 17828, 33785, 41471]) (l := some ((drawnN ns).length : Int)) (u := none) (EvN.l (EvN.list (EvEs.consts (ns := [35309, 17828, 33785, 41471]) rfl) (le_size rfl)))
    (.some ((EvE.callV (EvV.bi hP.x hF hP.b_len) trivial (.cons (EvE.name hF (i := 1) rfl rfl) .nil rfl) (OpC.len_list (by omega))).to (by rw [hdl]))) .none (le_size rfl)).to (cutK (by show _ ≤ 4; omega)))) (by rw [sizeLine_eq, hdl, List.length_map, List.length_drop]; show _ + (4 - _) ≤ _; omega)).to (by unfold modesN; exact (List.map_append ..).symm))) ?_)
  obtain ⟨m0, m1, m2, m3, em, h0, h1, h2, h3⟩ := modes_four ns
  rw [em]
  refine law_modes hP en hF (.list (iL ns)) (.list (nL (drawnN ns))) m0 m1 m2 m3 h0 h1 h2 h3 fun rm hrm => ?_
  have hv : ∀ r ∈ [rkN m0, rkN m1, rkN m2, rkN m3, rm], Vld r := fun r hr => by
    rcases List.mem_cons.mp hr with rfl | hr
    · exact rk_vld h0
    rcases List.mem_cons.mp hr with rfl | hr
    · exact rk_vld h1
    rcases List.mem_cons.mp hr with rfl | hr
    · exact rk_vld h2
    rcases List.mem_cons.mp hr with rfl | hr
    · exact rk_vld h3
    rw [List.mem_singleton.mp hr]
    intro k hk
    rw [hrm]; exact med_lt (rk_vld h0 k hk) (rk_vld h1 k hk) (rk_vld h2 k hk)
  exact law_end hP en hF (rkN m0) (rkN m1) (rkN m2) (rkN m3) rm hv hrm _ _ _ _
end
end Mine
namespace Mine
open MineP
noncomputable def argsOf (i : Nat) : Arguments := match PySem.Challenge.pw_ik0117_01.main.body[i]? with
  | some (.FunctionDef _ a _ _ _ _ _ _ _ _) => a
  | _ => default
noncomputable def fnO (i : Nat) (n : Str) (c : Addr) (pm : Value) : Obj := { cls := .type "function", data := .func { name := n, qualname := n, params := argsOf i, body := .stmts (bodyOf i), scope := scopeOf i, globals := 3, closure := [], defaults := .none, kwdefaults := .none, doc := .none, pyModule := pm, annotations := none, code := .ref c, closureTuple := .none, builtins := 0 } }
noncomputable def tupO (vs : List Value) : Obj := { cls := .type "tuple", data := .seq vs.toArray }
noncomputable def ent (P : Params) (n : Str) (t : Nat) (v : Value) : DictEntry := ⟨PyData.keyHash P n, .str n t, v⟩
noncomputable def cEnt (h k : Int) (t : Nat) (s : Str) (u : Nat) : DictEntry := ⟨h, .int k t, .str s u⟩
noncomputable def mainE (P : Params) : Array DictEntry := #[ent P "__name__" 165 (.str "law_ik0117_01" 615),
  ent P "__doc__" 166 (.none),
  ent P "__package__" 167 (.none),
  ent P "__loader__" 168 (.builtin "__main__.__loader__#opaque"),
  ent P "__spec__" 169 (.none),
  ent P "__annotations__" 170 (.ref 6),
  ent P "__builtins__" 171 (.ref 4),
  ent P "__file__" 173 (.str "/claim/cut.py" 172),
  ent P "__cached__" 174 (.none),
  ent P "_sre" 275 (.ref 12),
  ent P "S_IFMT" 290 (.ref 38),
  ent P "S_IFDIR" 292 (.int 16384 291),
  ent P "S_IFCHR" 294 (.int 8192 293),
  ent P "S_IFBLK" 296 (.int 24576 295),
  ent P "S_IFREG" 298 (.int 32768 297),
  ent P "S_IFIFO" 300 (.int 4096 299),
  ent P "S_IFLNK" 302 (.int 40960 301),
  ent P "S_IFSOCK" 304 (.int 49152 303),
  ent P "S_ISUID" 306 (.int 2048 305),
  ent P "S_ISGID" 308 (.int 1024 307),
  ent P "S_ISVTX" 310 (.int 512 309),
  ent P "S_IRUSR" 312 (.int 256 311),
  ent P "S_IWUSR" 314 (.int 128 313),
  ent P "S_IXUSR" 316 (.int 64 315),
  ent P "S_IRGRP" 318 (.int 32 317),
  ent P "S_IWGRP" 320 (.int 16 319),
  ent P "S_IXGRP" 322 (.int 8 321),
  ent P "S_IROTH" 324 (.int 4 323),
  ent P "S_IWOTH" 326 (.int 2 325),
  ent P "S_IXOTH" 328 (.int 1 327),
  ent P "_filemode_table" 354 (.ref 71),
  ent P "filemode" 366 (.ref 78),
  ent P "_twin_re_1" 406 (.ref 83),
  ent P "translate" 415 (.ref 90),
  ent P "_special_chars_map" 563 (.ref 92),
  ent P "escape" 570 (.ref 102),
  ent P "_translate" 591 (.ref 109),
  ent P "_join_translated_parts" 604 (.ref 116),
  ent P "_strcoll" 614 (.ref 123),
  ent P "_law_ranks" 627 (.ref 130),
  ent P "_law_mode" 639 (.ref 137),
  ent P "_law_pattern" 650 (.ref 144),
  ent P "_law_sign" 658 (.ref 151),
  ent P "_law_ranges" 670 (.ref 158),
  ent P "_law_takes" 676 (.ref 163),
  ent P "_law_between" 682 (.ref 168),
  ent P "_law_ordered" 694 (.ref 175),
  ent P "law" 700 (.ref 180)]
/-- what the proof reads of the heap behind the top -/
noncomputable def heapF (P : Params) : Frag := [
  (3, { cls := .type "dict", data := .dict (mainE P) 48 }),
  (37, { cls := .type "code", data := .fields #[.str "S_IFMT" 284, .str "S_IFMT" 285, .str "/claim/cut.py" 286, .int 3 0, .int 1 0, .int 0 0, .int 0 0, .int 3 0, .ref 32, .bool true, .int 276 0, .ref 33, .none, .ref 34, .ref 35, .ref 36, .int 288 0, .int 3 0, .str "/claim/cut.py" 289] }),
  (38, fnO 2 "S_IFMT" 37 (.str "cpy313.stat" 282)),
  (39, tupO [.int 40960 301, .str "l" 329]),
  (40, tupO [.int 49152 303, .str "s" 330]),
  (41, tupO [.int 32768 297, .str "-" 331]),
  (42, tupO [.int 24576 295, .str "b" 332]),
  (43, tupO [.int 16384 291, .str "d" 333]),
  (44, tupO [.int 8192 293, .str "c" 334]),
  (45, tupO [.int 4096 299, .str "p" 335]),
  (46, tupO [.ref 39, .ref 40, .ref 41, .ref 42, .ref 43, .ref 44, .ref 45]),
  (47, tupO [.int 256 311, .str "r" 336]),
  (48, tupO [.ref 47]),
  (49, tupO [.int 128 313, .str "w" 337]),
  (50, tupO [.ref 49]),
  (51, tupO [.int 2112 338, .str "s" 339]),
  (52, tupO [.int 2048 305, .str "S" 340]),
  (53, tupO [.int 64 315, .str "x" 341]),
  (54, tupO [.ref 51, .ref 52, .ref 53]),
  (55, tupO [.int 32 317, .str "r" 342]),
  (56, tupO [.ref 55]),
  (57, tupO [.int 16 319, .str "w" 343]),
  (58, tupO [.ref 57]),
  (59, tupO [.int 1032 344, .str "s" 345]),
  (60, tupO [.int 1024 307, .str "S" 346]),
  (61, tupO [.int 8 321, .str "x" 347]),
  (62, tupO [.ref 59, .ref 60, .ref 61]),
  (63, tupO [.int 4 323, .str "r" 348]),
  (64, tupO [.ref 63]),
  (65, tupO [.int 2 325, .str "w" 349]),
  (66, tupO [.ref 65]),
  (67, tupO [.int 513 350, .str "t" 351]),
  (68, tupO [.int 512 309, .str "T" 352]),
  (69, tupO [.int 1 327, .str "x" 353]),
  (70, tupO [.ref 67, .ref 68, .ref 69]),
  (71, tupO [.ref 46, .ref 48, .ref 50, .ref 54, .ref 56, .ref 58, .ref 62, .ref 64, .ref 66, .ref 70]),
  (77, { cls := .type "code", data := .fields #[.str "filemode" 355, .str "filemode" 356, .str "/claim/cut.py" 357, .int 25 0, .int 1 0, .int 0 0, .int 0 0, .int 3 0, .ref 72, .bool true, .int 276 0, .ref 73, .none, .ref 74, .ref 75, .ref 76, .int 364 0, .int 25 0, .str "/claim/cut.py" 365] }),
  (78, fnO 23 "filemode" 77 (.str "cpy313.stat" 282)),
  (82, tupO [.int 14 0, .int 14 0, .int 4 0, .int 1 0, .int 1 0, .int 9 0, .int 0 0, .int 64 0, .int 0 0, .int 1342177280 0, .int 0 0, .int 0 0, .int 0 0, .int 0 0, .int 0 0, .int 17 0, .int 0 0, .int 13 0, .int 11 0, .int 9 0, .int 0 0, .int 64 0, .int 0 0, .int 1342177280 0, .int 0 0, .int 0 0, .int 0 0, .int 0 0, .int 0 0, .int 17 0, .int 1 0, .int 1 0]),
  (83, { cls := .type "re.Pattern", data := .fields #[.str "([&~|])" 370, .int 32 405, .int 1 0, .none, .none, .ref 82, .int 0 0] }),
  (89, { cls := .type "code", data := .fields #[.str "translate" 407, .str "translate" 408, .str "/claim/cut.py" 409, .int 44 0, .int 1 0, .int 0 0, .int 0 0, .int 3 0, .ref 84, .bool true, .int 276 0, .ref 85, .none, .ref 86, .ref 87, .ref 88, .int 413 0, .int 44 0, .str "/claim/cut.py" 414] }),
  (90, fnO 26 "translate" 89 (.str "cpy313.fnmatch" 367)),
  (92, { cls := .type "dict", data := .dict #[cEnt 40 40 419 "\\(" 423, cEnt 41 41 425 "\\)" 429, cEnt 91 91 431 "\\[" 435, cEnt 93 93 437 "\\]" 441, cEnt 123 123 443 "\\{" 447, cEnt 125 125 449 "\\}" 453, cEnt 63 63 455 "\\?" 459, cEnt 42 42 461 "\\*" 465, cEnt 43 43 467 "\\+" 471, cEnt 45 45 473 "\\-" 477, cEnt 124 124 479 "\\|" 483, cEnt 94 94 485 "\\^" 489, cEnt 36 36 491 "\\$" 495, cEnt 92 92 497 "\\\\" 501, cEnt 46 46 503 "\\." 507, cEnt 38 38 509 "\\&" 513, cEnt 126 126 515 "\\~" 519, cEnt 35 35 521 "\\#" 525, cEnt 32 32 527 "\\ " 531, cEnt 9 9 533 "\\\t" 537, cEnt 10 10 539 "\\\n" 543, cEnt 13 13 545 "\\\x0d" 549, cEnt 11 11 551 "\\\x0b" 555, cEnt 12 12 557 "\\\x0c" 561] 24 }),
  (101, { cls := .type "code", data := .fields #[.str "escape" 564, .str "escape" 565, .str "/claim/cut.py" 566, .int 50 0, .int 1 0, .int 0 0, .int 0 0, .int 3 0, .ref 96, .bool true, .int 276 0, .ref 97, .none, .ref 98, .ref 99, .ref 100, .int 568 0, .int 50 0, .str "/claim/cut.py" 569] }),
  (102, fnO 29 "escape" 101 (.str "re" 416)),
  (108, { cls := .type "code", data := .fields #[.str "_translate" 573, .str "_translate" 574, .str "/claim/cut.py" 575, .int 57 0, .int 3 0, .int 0 0, .int 0 0, .int 3 0, .ref 103, .bool true, .int 276 0, .ref 104, .none, .ref 105, .ref 106, .ref 107, .int 589 0, .int 57 0, .str "/claim/cut.py" 590] }),
  (109, fnO 31 "_translate" 108 (.str "cpy313.fnmatch" 571)),
  (115, { cls := .type "code", data := .fields #[.str "_join_translated_parts" 592, .str "_join_translated_parts" 593, .str "/claim/cut.py" 594, .int 119 0, .int 2 0, .int 0 0, .int 0 0, .int 3 0, .ref 110, .bool true, .int 276 0, .ref 111, .none, .ref 112, .ref 113, .ref 114, .int 602 0, .int 119 0, .str "/claim/cut.py" 603] }),
  (116, fnO 32 "_join_translated_parts" 115 (.str "cpy313.fnmatch" 571)),
  (122, { cls := .type "code", data := .fields #[.str "_strcoll" 607, .str "_strcoll" 608, .str "/claim/cut.py" 609, .int 147 0, .int 2 0, .int 0 0, .int 0 0, .int 3 0, .ref 117, .bool true, .int 276 0, .ref 118, .none, .ref 119, .ref 120, .ref 121, .int 612 0, .int 147 0, .str "/claim/cut.py" 613] }),
  (123, fnO 34 "_strcoll" 122 (.str "cpy313.locale" 605)),
  (129, { cls := .type "code", data := .fields #[.str "_law_ranks" 617, .str "_law_ranks" 618, .str "/claim/cut.py" 619, .int 150 0, .int 1 0, .int 0 0, .int 0 0, .int 3 0, .ref 124, .bool true, .int 276 0, .ref 125, .none, .ref 126, .ref 127, .ref 128, .int 625 0, .int 150 0, .str "/claim/cut.py" 626] }),
  (130, fnO 36 "_law_ranks" 129 (.str "law_ik0117_01" 615)),
  (136, { cls := .type "code", data := .fields #[.str "_law_mode" 628, .str "_law_mode" 629, .str "/claim/cut.py" 630, .int 156 0, .int 1 0, .int 0 0, .int 0 0, .int 3 0, .ref 131, .bool true, .int 276 0, .ref 132, .none, .ref 133, .ref 134, .ref 135, .int 637 0, .int 156 0, .str "/claim/cut.py" 638] }),
  (137, fnO 37 "_law_mode" 136 (.str "law_ik0117_01" 615)),
  (143, { cls := .type "code", data := .fields #[.str "_law_pattern" 640, .str "_law_pattern" 641, .str "/claim/cut.py" 642, .int 162 0, .int 2 0, .int 0 0, .int 0 0, .int 3 0, .ref 138, .bool true, .int 276 0, .ref 139, .none, .ref 140, .ref 141, .ref 142, .int 648 0, .int 162 0, .str "/claim/cut.py" 649] }),
  (144, fnO 38 "_law_pattern" 143 (.str "law_ik0117_01" 615)),
  (150, { cls := .type "code", data := .fields #[.str "_law_sign" 651, .str "_law_sign" 652, .str "/claim/cut.py" 653, .int 172 0, .int 2 0, .int 0 0, .int 0 0, .int 3 0, .ref 145, .bool true, .int 276 0, .ref 146, .none, .ref 147, .ref 148, .ref 149, .int 656 0, .int 172 0, .str "/claim/cut.py" 657] }),
  (151, fnO 39 "_law_sign" 150 (.str "law_ik0117_01" 615)),
  (157, { cls := .type "code", data := .fields #[.str "_law_ranges" 659, .str "_law_ranges" 660, .str "/claim/cut.py" 661, .int 176 0, .int 1 0, .int 0 0, .int 0 0, .int 3 0, .ref 152, .bool true, .int 276 0, .ref 153, .none, .ref 154, .ref 155, .ref 156, .int 668 0, .int 176 0, .str "/claim/cut.py" 669] }),
  (158, fnO 40 "_law_ranges" 157 (.str "law_ik0117_01" 615)),
  (162, { cls := .type "code", data := .fields #[.str "_law_takes" 671, .str "_law_takes" 672, .str "/claim/cut.py" 673, .int 191 0, .int 2 0, .int 0 0, .int 0 0, .int 3 0, .ref 159, .bool true, .int 276 0, .ref 160, .none, .none, .none, .ref 161, .int 674 0, .int 191 0, .str "/claim/cut.py" 675] }),
  (163, fnO 41 "_law_takes" 162 (.str "law_ik0117_01" 615)),
  (167, { cls := .type "code", data := .fields #[.str "_law_between" 677, .str "_law_between" 678, .str "/claim/cut.py" 679, .int 195 0, .int 3 0, .int 0 0, .int 0 0, .int 3 0, .ref 164, .bool true, .int 276 0, .ref 165, .none, .none, .none, .ref 166, .int 680 0, .int 195 0, .str "/claim/cut.py" 681] }),
  (168, fnO 42 "_law_between" 167 (.str "law_ik0117_01" 615)),
  (174, { cls := .type "code", data := .fields #[.str "_law_ordered" 683, .str "_law_ordered" 684, .str "/claim/cut.py" 685, .int 197 0, .int 4 0, .int 0 0, .int 0 0, .int 3 0, .ref 169, .bool true, .int 276 0, .ref 170, .none, .ref 171, .ref 172, .ref 173, .int 692 0, .int 197 0, .str "/claim/cut.py" 693] }),
  (175, fnO 43 "_law_ordered" 174 (.str "law_ik0117_01" 615)),
  (179, { cls := .type "code", data := .fields #[.str "law" 695, .str "law" 696, .str "/claim/cut.py" 697, .int 201 0, .int 1 0, .int 0 0, .int 0 0, .int 3 0, .ref 176, .bool true, .int 276 0, .ref 177, .none, .none, .none, .ref 178, .int 698 0, .int 201 0, .str "/claim/cut.py" 699] }),
  (180, fnO 44 "law" 179 (.str "law_ik0117_01" 615))]
noncomputable def addrF : List Addr := [3, 37, 38, 39, 40, 41, 42, 43, 44, 45, 46, 47, 48, 49, 50, 51, 52, 53, 54, 55, 56, 57, 58, 59, 60, 61, 62, 63, 64, 65, 66, 67, 68, 69, 70, 71, 77, 78, 82, 83, 89, 90, 92, 101, 102, 108, 109, 115, 116, 122, 123, 129, 130, 136, 137, 143, 144, 150, 151, 157, 158, 162, 163, 167, 168, 174, 175, 179, 180]
theorem addrF_ok (P : Params) : addrF = (heapF P).map (·.1) := rfl
noncomputable def keepF : List Nat := [0, 44]
/-- the text's first row and the law alone -/
noncomputable def viewF : Program := { PySem.Challenge.pw_ik0117_01 with main := { PySem.Challenge.pw_ik0117_01.main with body := keepF.filterMap fun i => PySem.Challenge.pw_ik0117_01.main.body[i]? } }
noncomputable def looseF : List Str := [.ofString "S_IFMT", .ofString "S_IFDIR", .ofString "S_IFCHR", .ofString "S_IFBLK", .ofString "S_IFREG", .ofString "S_IFIFO", .ofString "S_IFLNK", .ofString "S_IFSOCK", .ofString "S_ISUID", .ofString "S_ISGID", .ofString "S_ISVTX", .ofString "S_IRUSR", .ofString "S_IWUSR", .ofString "S_IXUSR", .ofString "S_IRGRP", .ofString "S_IWGRP", .ofString "S_IXGRP", .ofString "S_IROTH", .ofString "S_IWOTH", .ofString "S_IXOTH", .ofString "_filemode_table", .ofString "filemode", .ofString "_twin_re_1", .ofString "translate", .ofString "_special_chars_map", .ofString "escape", .ofString "_translate", .ofString "_join_translated_parts", .ofString "_strcoll", .ofString "_law_ranks", .ofString "_law_mode", .ofString "_law_pattern", .ofString "_law_sign", .ofString "_law_ranges", .ofString "_law_takes", .ofString "_law_between", .ofString "_law_ordered"]
noncomputable def hookF : Hook := kmHook heapF addrF addrF_ok [104]
noncomputable abbrev rowF : RowW := PySem.Challenge.rw_ik0117_01.row.toRowW
noncomputable abbrev lookF (s : Shared) : Bool := xlAt viewF [] s && recOk (RowW.records rowF) s
end Mine
namespace Mine
open MineP
noncomputable abbrev tabsH : List (Addr × Addr) := [(108, 104)]
/-- the world of the law, behind its top -/
noncomputable abbrev XW (w : World) (h : Heap) (mg mb : Str → Option Value) : Wd := ⟨PySem.Challenge.rw_ik0117_01.row.prog, w, ghostOf h tabsH, 104, mg, mb⟩
theorem defPC_of {X : Wd} {K : Frag} (KG : K.In X.hb) {a c i : Nat} {ps : List Str} {cl1 cl2 : Value} {dd1 dd2 : Option Addr} {sl1 sl2 : Array (Option Value)} {fd : FuncData} {vs : Array Value} {t : Tok}
    (h1 : K.lookup a = some ⟨cl1, dd1, .func fd, sl1⟩) (h2 : K.lookup c = some ⟨cl2, dd2, .fields vs, sl2⟩) (hc : fd.code = .ref c) (hv : vs[1]? = some (.str fd.qualname t)) (hb : fd.body = .stmts (bodyOf i)) (hs : fd.scope = scopeOf i) (hg : fd.globals = mainGlobals) (hbu : fd.builtins = builtinsNs) (hcl : fd.closure = [])
    (hbind : ∀ vs : List Value, vs.length = ps.length → bindArgs fd ⟨vs, []⟩ = pure (ps.zip vs)) (hco : fd.scope.isCoroutine = false) (hge : fd.scope.isGenerator = false) (hki : fd.scope.kind = .function) : DefPC X a i ps (.ref c) :=
  ⟨fd, ⟨⟨_, KG _ _ h1, rfl⟩, ⟨c, _, vs, t, hc, KG _ _ h2, rfl, hv⟩, hb, hbind, hco, hge, hki⟩, hs, hg, hbu, hcl, hc⟩
theorem DefPC.p {X : Wd} {a i : Nat} {ps : List Str} {cd : Value} (h : DefPC X a i ps cd) : DefP X a i ps := let ⟨fd, h1, h2, h3, h4, h5, _⟩ := h; ⟨fd, h1, h2, h3, h4, h5⟩
theorem bind1 {P : List Value → Prop} (h : ∀ a, P [a]) : ∀ vs : List Value, vs.length = 1 → P vs
  | [a], _ => h a
theorem bind2 {P : List Value → Prop} (h : ∀ a b, P [a, b]) : ∀ vs : List Value, vs.length = 2 → P vs
  | [a, b], _ => h a b
theorem bind3 {P : List Value → Prop} (h : ∀ a b c, P [a, b, c]) : ∀ vs : List Value, vs.length = 3 → P vs
  | [a, b, c], _ => h a b c
theorem bind4 {P : List Value → Prop} (h : ∀ a b c d, P [a, b, c, d]) : ∀ vs : List Value, vs.length = 4 → P vs
  | [a, b, c, d], _ => h a b c d
section
variable {w : World} {h : Heap} {mg mb : Str → Option Value}
theorem def_tr (KG : (heapF w.params).In (ghostOf h tabsH)) : DefPC (XW w h mg mb) 109 31 ["pat", "STAR", "QUESTION_MARK"] (.ref 108) :=
  defPC_of KG (c := 108) rfl rfl rfl rfl rfl rfl rfl rfl rfl (bind3 fun _ _ _ => rfl) rfl rfl rfl
theorem def_ifmt (KG : (heapF w.params).In (ghostOf h tabsH)) : DefPC (XW w h mg mb) 38 2 ["mode"] (.ref 37) :=
  defPC_of KG (c := 37) rfl rfl rfl rfl rfl rfl rfl rfl rfl (bind1 fun _ => rfl) rfl rfl rfl
theorem def_filemode (KG : (heapF w.params).In (ghostOf h tabsH)) : DefPC (XW w h mg mb) 78 23 ["mode"] (.ref 77) :=
  defPC_of KG (c := 77) rfl rfl rfl rfl rfl rfl rfl rfl rfl (bind1 fun _ => rfl) rfl rfl rfl
theorem def_translate (KG : (heapF w.params).In (ghostOf h tabsH)) : DefPC (XW w h mg mb) 90 26 ["pat"] (.ref 89) :=
  defPC_of KG (c := 89) rfl rfl rfl rfl rfl rfl rfl rfl rfl (bind1 fun _ => rfl) rfl rfl rfl
theorem def_escape (KG : (heapF w.params).In (ghostOf h tabsH)) : DefPC (XW w h mg mb) 102 29 ["pattern"] (.ref 101) :=
  defPC_of KG (c := 101) rfl rfl rfl rfl rfl rfl rfl rfl rfl (bind1 fun _ => rfl) rfl rfl rfl
theorem def_join (KG : (heapF w.params).In (ghostOf h tabsH)) : DefPC (XW w h mg mb) 116 32 ["inp", "STAR"] (.ref 115) :=
  defPC_of KG (c := 115) rfl rfl rfl rfl rfl rfl rfl rfl rfl (bind2 fun _ _ => rfl) rfl rfl rfl
theorem def_strcoll (KG : (heapF w.params).In (ghostOf h tabsH)) : DefPC (XW w h mg mb) 123 34 ["a", "b"] (.ref 122) :=
  defPC_of KG (c := 122) rfl rfl rfl rfl rfl rfl rfl rfl rfl (bind2 fun _ _ => rfl) rfl rfl rfl
theorem def_ranks (KG : (heapF w.params).In (ghostOf h tabsH)) : DefPC (XW w h mg mb) 130 36 ["mode"] (.ref 129) :=
  defPC_of KG (c := 129) rfl rfl rfl rfl rfl rfl rfl rfl rfl (bind1 fun _ => rfl) rfl rfl rfl
theorem def_mode (KG : (heapF w.params).In (ghostOf h tabsH)) : DefPC (XW w h mg mb) 137 37 ["ranks"] (.ref 136) :=
  defPC_of KG (c := 136) rfl rfl rfl rfl rfl rfl rfl rfl rfl (bind1 fun _ => rfl) rfl rfl rfl
theorem def_pattern (KG : (heapF w.params).In (ghostOf h tabsH)) : DefPC (XW w h mg mb) 144 38 ["one", "other"] (.ref 143) :=
  defPC_of KG (c := 143) rfl rfl rfl rfl rfl rfl rfl rfl rfl (bind2 fun _ _ => rfl) rfl rfl rfl
theorem def_sign (KG : (heapF w.params).In (ghostOf h tabsH)) : DefPC (XW w h mg mb) 151 39 ["text", "k"] (.ref 150) :=
  defPC_of KG (c := 150) rfl rfl rfl rfl rfl rfl rfl rfl rfl (bind2 fun _ _ => rfl) rfl rfl rfl
theorem def_ranges (KG : (heapF w.params).In (ghostOf h tabsH)) : DefPC (XW w h mg mb) 158 40 ["text"] (.ref 157) :=
  defPC_of KG (c := 157) rfl rfl rfl rfl rfl rfl rfl rfl rfl (bind1 fun _ => rfl) rfl rfl rfl
theorem def_takes (KG : (heapF w.params).In (ghostOf h tabsH)) : DefPC (XW w h mg mb) 163 41 ["ranges", "text"] (.ref 162) :=
  defPC_of KG (c := 162) rfl rfl rfl rfl rfl rfl rfl rfl rfl (bind2 fun _ _ => rfl) rfl rfl rfl
theorem def_between (KG : (heapF w.params).In (ghostOf h tabsH)) : DefPC (XW w h mg mb) 168 42 ["one", "ranks", "other"] (.ref 167) :=
  defPC_of KG (c := 167) rfl rfl rfl rfl rfl rfl rfl rfl rfl (bind3 fun _ _ _ => rfl) rfl rfl rfl
theorem def_ordered (KG : (heapF w.params).In (ghostOf h tabsH)) : DefPC (XW w h mg mb) 175 43 ["one", "other", "ranks", "others"] (.ref 174) :=
  defPC_of KG (c := 174) rfl rfl rfl rfl rfl rfl rfl rfl rfl (bind4 fun _ _ _ _ => rfl) rfl rfl rfl
theorem def_law (KG : (heapF w.params).In (ghostOf h tabsH)) : DefPC (XW w h mg mb) 180 44 ["script"] (.ref 179) :=
  defPC_of KG (c := 179) rfl rfl rfl rfl rfl rfl rfl rfl rfl (bind1 fun _ => rfl) rfl rfl rfl
end
end Mine
namespace Mine
open MineP
theorem den_tup {K : Frag} {hb : Heap} (KG : K.In hb) {a : Addr} {vs : List Value} {ds : List D} {n : Nat} {dd : Option Addr} {sl : Array (Option Value)} (h1 : K.lookup a = some ⟨.type "tuple", dd, .seq vs.toArray n, sl⟩) (r : Dens [] hb vs ds) : Den [] hb (.ref a) (.tuple ds) :=
  .tuple (fun m => nomatch m) ⟨_, KG _ _ h1, rfl, _, rfl⟩ r
theorem isInt_self (prog : Program) (w : World) (k : Int) (t : Tok) : (intKind prog w).is k (.int k t) = true := by simp [intKind, Value.isInt]
section
variable {w : World} {h : Heap} {mg mb : Str → Option Value} {p : Program} {loose : List Str} {mean : ExcName → Option Value}
theorem wok (hT : TabsAt tabsH h) (T : Top p loose mean mg mb h) : WOk (XW w h mg mb) :=
  ⟨ghost_ns hT T.g, ghost_ns hT T.b, (ghost_top hT T).nolimit, hideAll_none _ (.head _)⟩
theorem built_ok (hT : TabsAt tabsH h) (T : Top p loose mean mg mb h) : (ghostOf h tabsH).BuiltinsAt mg 104 := by
  obtain ⟨bm, ob, a1, a2, a3, a4, a5, a6⟩ := (ghost_top hT T).bmain
  refine ⟨bm, ob, a1, a2, fun q => ?_, fun q => ?_, a3, a4, a5, a6⟩
  · obtain ⟨o, es, ep, e, hd, _⟩ := (ghost_top hT T).g
    rw [q, e] at a3; cases a3; rw [hd] at a6; cases a6
  · have : (ghostOf h tabsH).get? 104 = none := hideAll_none _ (.head _)
    rw [q, this] at a3; cases a3
theorem maker_ok (hT : TabsAt tabsH h) (T : Top p loose mean mg mb h) : Maker (XW w h mg mb) (.ref 108) :=
  ⟨⟨108, rfl, (ghost_code hT).1⟩, built_ok hT T⟩
theorem re_ok (KG : (heapF w.params).In (ghostOf h tabsH)) : ReAt (ghostOf h tabsH) 83 :=
  ⟨_, _, _, _, _, 82, _, KG _ _ rfl, ⟨_, _, KG _ _ rfl, rfl⟩, by kernel_rfl⟩
theorem map_ok (KG : (heapF w.params).In (ghostOf h tabsH)) (prog : Program) : ∃ f t, (ghostOf h tabsH).MapOf (intKind prog w) 92 f ∧ f ((45 : Nat) : Int) = some (.str (⟨#[92, 45]⟩ : Str) t) ∧ ∀ c : Nat, c ∈ lettersL → f c = none := by
  refine ⟨_, _, ⟨_, _, _, KG _ _ rfl, ⟨rfl, rfl, rfl⟩, rfl, ?_, fun k => rfl⟩, rfl, ?_⟩
  · intro e he
    simp only [List.mem_toArray, List.mem_cons, List.not_mem_nil, or_false] at he
    rcases he with rfl | rfl | rfl | rfl | rfl | rfl | rfl | rfl | rfl | rfl | rfl | rfl | rfl | rfl | rfl | rfl | rfl | rfl | rfl | rfl | rfl | rfl | rfl | rfl <;> exact ⟨_, isInt_self _ _ _ _, by kernel_rfl⟩
  · intro c hc
    simp only [lettersL, List.mem_cons, List.not_mem_nil, or_false] at hc
    rcases hc with rfl | rfl | rfl | rfl | rfl | rfl | rfl | rfl | rfl | rfl | rfl | rfl <;> rfl
theorem fm_ok2 (KG : (heapF w.params).In (ghostOf h tabsH)) : Den [] (ghostOf h tabsH) (.ref 71) (fmD fmT) :=
  den_tup KG rfl (.cons (den_tup KG rfl (.cons (den_tup KG rfl (.cons (.int _ _) (.cons (.str _ _) .nil))) (.cons (den_tup KG rfl (.cons (.int _ _) (.cons (.str _ _) .nil))) (.cons (den_tup KG rfl (.cons (.int _ _) (.cons (.str _ _) .nil))) (.cons (den_tup KG rfl (.cons (.int _ _) (.cons (.str _ _) .nil))) (.cons (den_tup KG rfl (.cons (.int _ _) (.cons (.str _ _) .nil))) (.cons (den_tup KG rfl (.cons (.int _ _) (.cons (.str _ _) .nil))) (.cons (den_tup KG rfl (.cons (.int _ _) (.cons (.str _ _) .nil))) .nil)))))))) (.cons (den_tup KG rfl (.cons (den_tup KG rfl (.cons (.int _ _) (.cons (.str _ _) .nil))) .nil)) (.cons (den_tup KG rfl (.cons (den_tup KG rfl (.cons (.int _ _) (.cons (.str _ _) .nil))) .nil)) (.cons (den_tup KG rfl (.cons (den_tup KG rfl (.cons (.int _ _) (.cons (.str _ _) .nil))) (.cons (den_tup KG rfl (.cons (.int _ _) (.cons (.str _ _) .nil))) (.cons (den_tup KG rfl (.cons (.int _ _) (.cons (.str _ _) .nil))) .nil)))) (.cons (den_tup KG rfl (.cons (den_tup KG rfl (.cons (.int _ _) (.cons (.str _ _) .nil))) .nil)) (.cons (den_tup KG rfl (.cons (den_tup KG rfl (.cons (.int _ _) (.cons (.str _ _) .nil))) .nil)) (.cons (den_tup KG rfl (.cons (den_tup KG rfl (.cons (.int _ _) (.cons (.str _ _) .nil))) (.cons (den_tup KG rfl (.cons (.int _ _) (.cons (.str _ _) .nil))) (.cons (den_tup KG rfl (.cons (.int _ _) (.cons (.str _ _) .nil))) .nil)))) (.cons (den_tup KG rfl (.cons (den_tup KG rfl (.cons (.int _ _) (.cons (.str _ _) .nil))) .nil)) (.cons (den_tup KG rfl (.cons (den_tup KG rfl (.cons (.int _ _) (.cons (.str _ _) .nil))) .nil)) (.cons (den_tup KG rfl (.cons (den_tup KG rfl (.cons (.int _ _) (.cons (.str _ _) .nil))) (.cons (den_tup KG rfl (.cons (.int _ _) (.cons (.str _ _) .nil))) (.cons (den_tup KG rfl (.cons (.int _ _) (.cons (.str _ _) .nil))) .nil)))) .nil))))))))))
end
end Mine
namespace Mine
open MineP
noncomputable def ob0 (P : Params) : Obj := { cls := .type "dict", data := Data.dict #[ent P "__name__" 1 (.str "builtins" 160), ent P "__doc__" 2 (.builtin "builtins.__doc__:str#opaque"), ent P "__package__" 3 (.builtin "builtins.__package__:str#opaque"), ent P "__loader__" 4 (.builtin "builtins.__loader__:shared#opaque"), ent P "__spec__" 5 (.builtin "builtins.__spec__#opaque"), ent P "__build_class__" 6 (.builtin "__build_class__"), ent P "__import__" 7 (.builtin "__import__"), ent P "abs" 8 (.builtin "abs"), ent P "all" 9 (.builtin "all"), ent P "any" 10 (.builtin "any"), ent P "ascii" 11 (.builtin "ascii"), ent P "bin" 12 (.builtin "bin"), ent P "breakpoint" 13 (.builtin "breakpoint"), ent P "callable" 14 (.builtin "callable"), ent P "chr" 15 (.builtin "chr"), ent P "compile" 16 (.builtin "compile"), ent P "delattr" 17 (.builtin "delattr"), ent P "dir" 18 (.builtin "dir"), ent P "divmod" 19 (.builtin "divmod"), ent P "eval" 20 (.builtin "eval"), ent P "exec" 21 (.builtin "exec"), ent P "format" 22 (.builtin "format"), ent P "getattr" 23 (.builtin "getattr"), ent P "globals" 24 (.builtin "globals"), ent P "hasattr" 25 (.builtin "hasattr"), ent P "hash" 26 (.builtin "hash"), ent P "hex" 27 (.builtin "hex"), ent P "id" 28 (.builtin "id"), ent P "input" 29 (.builtin "input"), ent P "isinstance" 30 (.builtin "isinstance"), ent P "issubclass" 31 (.builtin "issubclass"), ent P "iter" 32 (.builtin "iter"), ent P "aiter" 33 (.builtin "aiter"), ent P "len" 34 (.builtin "len"), ent P "locals" 35 (.builtin "locals"), ent P "max" 36 (.builtin "max"), ent P "min" 37 (.builtin "min"), ent P "next" 38 (.builtin "next"), ent P "anext" 39 (.builtin "anext"), ent P "oct" 40 (.builtin "oct"), ent P "ord" 41 (.builtin "ord"), ent P "pow" 42 (.builtin "pow"), ent P "print" 43 (.builtin "print"), ent P "repr" 44 (.builtin "repr"), ent P "round" 45 (.builtin "round"), ent P "setattr" 46 (.builtin "setattr"), ent P "sorted" 47 (.builtin "sorted"), ent P "sum" 48 (.builtin "sum"), ent P "vars" 49 (.builtin "vars"), ent P "None" 50 .none, ent P "Ellipsis" 51 (.ellipsis), ent P "NotImplemented" 52 (Value.notImplemented), ent P "False" 53 (.bool false), ent P "True" 54 (.bool true), ent P "bool" 55 (.type "bool"), ent P "memoryview" 56 (.type "memoryview"), ent P "bytearray" 57 (.type "bytearray"), ent P "bytes" 58 (.type "bytes"), ent P "classmethod" 59 (.type "classmethod"), ent P "complex" 60 (.type "complex"), ent P "dict" 61 (.type "dict"), ent P "enumerate" 62 (.type "enumerate"), ent P "filter" 63 (.type "filter"), ent P "float" 64 (.type "float"), ent P "frozenset" 65 (.type "frozenset"), ent P "property" 66 (.type "property"), ent P "int" 67 (.type "int"), ent P "list" 68 (.type "list"), ent P "map" 69 (.type "map"), ent P "object" 70 (.type "object"), ent P "range" 71 (.type "range"), ent P "reversed" 72 (.type "reversed"), ent P "set" 73 (.type "set"), ent P "slice" 74 (.type "slice"), ent P "staticmethod" 75 (.type "staticmethod"), ent P "str" 76 (.type "str"), ent P "super" 77 (.type "super"), ent P "tuple" 78 (.type "tuple"), ent P "type" 79 (.type "type"), ent P "zip" 80 (.type "zip"), ent P "__debug__" 81 (.bool true), ent P "BaseException" 82 (.type "BaseException"), ent P "BaseExceptionGroup" 83 (.type "BaseExceptionGroup"), ent P "Exception" 84 (.type "Exception"), ent P "GeneratorExit" 85 (.type "GeneratorExit"), ent P "KeyboardInterrupt" 86 (.type "KeyboardInterrupt"), ent P "SystemExit" 87 (.type "SystemExit"), ent P "ArithmeticError" 88 (.type "ArithmeticError"), ent P "AssertionError" 89 (.type "AssertionError"), ent P "AttributeError" 90 (.type "AttributeError"), ent P "BufferError" 91 (.type "BufferError"), ent P "EOFError" 92 (.type "EOFError"), ent P "ImportError" 93 (.type "ImportError"), ent P "LookupError" 94 (.type "LookupError"), ent P "MemoryError" 95 (.type "MemoryError"), ent P "NameError" 96 (.type "NameError"), ent P "OSError" 97 (.type "OSError"), ent P "ReferenceError" 98 (.type "ReferenceError"), ent P "RuntimeError" 99 (.type "RuntimeError"), ent P "StopAsyncIteration" 100 (.type "StopAsyncIteration"), ent P "StopIteration" 101 (.type "StopIteration"), ent P "SyntaxError" 102 (.type "SyntaxError"), ent P "SystemError" 103 (.type "SystemError"), ent P "TypeError" 104 (.type "TypeError"), ent P "ValueError" 105 (.type "ValueError"), ent P "Warning" 106 (.type "Warning"), ent P "FloatingPointError" 107 (.type "FloatingPointError"), ent P "OverflowError" 108 (.type "OverflowError"), ent P "ZeroDivisionError" 109 (.type "ZeroDivisionError"), ent P "BytesWarning" 110 (.type "BytesWarning"), ent P "DeprecationWarning" 111 (.type "DeprecationWarning"), ent P "EncodingWarning" 112 (.type "EncodingWarning"), ent P "FutureWarning" 113 (.type "FutureWarning"), ent P "ImportWarning" 114 (.type "ImportWarning"), ent P "PendingDeprecationWarning" 115 (.type "PendingDeprecationWarning"), ent P "ResourceWarning" 116 (.type "ResourceWarning"), ent P "RuntimeWarning" 117 (.type "RuntimeWarning"), ent P "SyntaxWarning" 118 (.type "SyntaxWarning"), ent P "UnicodeWarning" 119 (.type "UnicodeWarning"), ent P "UserWarning" 120 (.type "UserWarning"), ent P "BlockingIOError" 121 (.type "BlockingIOError"), ent P "ChildProcessError" 122 (.type "ChildProcessError"), ent P "ConnectionError" 123 (.type "ConnectionError"), ent P "FileExistsError" 124 (.type "FileExistsError"), ent P "FileNotFoundError" 125 (.type "FileNotFoundError"), ent P "InterruptedError" 126 (.type "InterruptedError"), ent P "IsADirectoryError" 127 (.type "IsADirectoryError"), ent P "NotADirectoryError" 128 (.type "NotADirectoryError"), ent P "PermissionError" 129 (.type "PermissionError"), ent P "ProcessLookupError" 130 (.type "ProcessLookupError"), ent P "TimeoutError" 131 (.type "TimeoutError"), ent P "IndentationError" 132 (.type "IndentationError"), ent P "_IncompleteInputError" 133 (.type "_IncompleteInputError"), ent P "IndexError" 134 (.type "IndexError"), ent P "KeyError" 135 (.type "KeyError"), ent P "ModuleNotFoundError" 136 (.type "ModuleNotFoundError"), ent P "NotImplementedError" 137 (.type "NotImplementedError"), ent P "PythonFinalizationError" 138 (.type "PythonFinalizationError"), ent P "RecursionError" 139 (.type "RecursionError"), ent P "UnboundLocalError" 140 (.type "UnboundLocalError"), ent P "UnicodeError" 141 (.type "UnicodeError"), ent P "BrokenPipeError" 142 (.type "BrokenPipeError"), ent P "ConnectionAbortedError" 143 (.type "ConnectionAbortedError"), ent P "ConnectionRefusedError" 144 (.type "ConnectionRefusedError"), ent P "ConnectionResetError" 145 (.type "ConnectionResetError"), ent P "TabError" 146 (.type "TabError"), ent P "UnicodeDecodeError" 147 (.type "UnicodeDecodeError"), ent P "UnicodeEncodeError" 148 (.type "UnicodeEncodeError"), ent P "UnicodeTranslateError" 149 (.type "UnicodeTranslateError"), ent P "ExceptionGroup" 150 (.type "ExceptionGroup"), ent P "EnvironmentError" 151 (.type "OSError"), ent P "IOError" 152 (.type "OSError"), ent P "open" 153 (.builtin "open"), ent P "quit" 154 (.builtin "builtins.quit#opaque"), ent P "exit" 155 (.builtin "builtins.exit#opaque"), ent P "copyright" 156 (.builtin "builtins.copyright#opaque"), ent P "credits" 157 (.builtin "builtins.credits#opaque"), ent P "license" 158 (.builtin "builtins.license#opaque"), ent P "help" 159 (.builtin "builtins.help#opaque")] 159 }
noncomputable def ob1 (P : Params) : Obj := { cls := .type "dict", data := Data.dict #[ent P "builtins" 162 (.ref 4), ent P "__main__" 163 (.ref 5), ent P "_sre" 244 (.ref 12)] 3 }
noncomputable def ob2 (P : Params) : Obj := { cls := .none, data := Data.dict #[ent P ⟨#[105, 109, 112, 111, 114, 116, 46, 108, 111, 97, 100, 101, 100, 46, 95, 115, 114, 101]⟩ 183 (.bool true), ent P "class._frozen_importlib.BuiltinImporter" 185 (.ref 14), ent P ⟨#[119, 97, 116, 99, 104, 101, 100, 46, 105, 109, 112, 111, 114, 116]⟩ 206 (.ref 18), ent P "class._frozen_importlib.ModuleSpec" 216 (.ref 22), ent P "sys.modules.booked-epoch" 245 (.int 3 0), ent P ⟨#[105, 109, 112, 111, 114, 116, 46, 108, 97, 116, 101, 114, 45, 108, 97, 105, 100, 46, 95, 115, 114, 101]⟩ 270 (.bool true), ent P "watched.library" 272 (.ref 27), ent P "watched.library-objects" 0 (.str ⟨#[12]⟩ 0), ent P "watched.library-deep._sre" 273 (.str ⟨#[4, 0, 0, 11, 4, 0, 0, 11, 4, 0, 0, 3, 4, 0, 0, 11, 8, 4, 100, 105, 99, 116, 2]⟩ 0)] 9 }
noncomputable def ob3 (P : Params) : Obj := { cls := .type "dict", data := Data.dict #[ent P "__name__" 165 (.str "__main__" 164), ent P "__doc__" 166 .none, ent P "__package__" 167 .none, ent P "__loader__" 168 (.builtin "__main__.__loader__#opaque"), ent P "__spec__" 169 .none, ent P "__annotations__" 170 (.ref 6), ent P "__builtins__" 171 (.ref 4), ent P "__file__" 173 (.str "/claim/cut.py" 172), ent P "__cached__" 174 .none, ent P "_sre" 275 (.ref 12)] 10 }
noncomputable def ob4 (P : Params) : Obj := { cls := .type "module", dict := some 0 }
noncomputable def ob5 (P : Params) : Obj := { cls := .type "module", dict := some 3 }
noncomputable def ob6 (P : Params) : Obj := { cls := .type "dict", data := Data.dict #[] }
noncomputable def ob7 (P : Params) : Obj := { cls := .type "tuple", data := Data.seq #[] }
noncomputable def ob8 (P : Params) : Obj := { cls := .none, data := Data.fields #[] }
noncomputable def ob9 (P : Params) : Obj := { cls := .type "code", data := Data.fields #[.str "<module>" 176, .str "<module>" 177, .str "/claim/cut.py" 178, .int 1 0, .int 0 0, .int 0 0, .int 0 0, .int 0 0, .ref 7, .bool false, .int 175 0, .ref 8, .none, .none, .none, .none, .int 179 0, .int 1 0, .str "/claim/cut.py" 180] }
noncomputable def ob10 (P : Params) : Obj := { cls := .type "frame", slots := #[some (.ref 9), some (.ref 3), some (.ref 3), none, some (.str "__main__" 164), none, some (.ref 0)] }
noncomputable def ob11 (P : Params) : Obj := { cls := .type "dict", data := Data.dict #[ent P "__name__" 247 (.str "_sre" 246), ent P "__doc__" 248 .none, ent P "__package__" 250 (.str "" 249), ent P "__loader__" 251 (.builtin "off-the-table:_sre.__loader__:shared#opaque"), ent P "__spec__" 252 (.builtin "off-the-table:_sre.__spec__:shared#opaque"), ent P "compile" 253 (.builtin "_sre.compile"), ent P "template" 254 (.builtin "off-the-table:_sre.template:shared#opaque"), ent P "getcodesize" 255 (.builtin "off-the-table:_sre.getcodesize:shared#opaque"), ent P "ascii_iscased" 256 (.builtin "off-the-table:_sre.ascii_iscased:shared#opaque"), ent P "unicode_iscased" 257 (.builtin "off-the-table:_sre.unicode_iscased:shared#opaque"), ent P "ascii_tolower" 258 (.builtin "off-the-table:_sre.ascii_tolower:shared#opaque"), ent P "unicode_tolower" 259 (.builtin "off-the-table:_sre.unicode_tolower:shared#opaque"), ent P "MAGIC" 261 (.int 20230612 260), ent P "CODESIZE" 263 (.int 4 262), ent P "MAXREPEAT" 265 (.int 4294967295 264), ent P "MAXGROUPS" 267 (.int 1073741823 266), ent P "copyright" 269 (.str " SRE 2.2.2 Copyright (c) 1997-2002 by Secret Labs AB " 268)] 17 }
noncomputable def ob12 (P : Params) : Obj := { cls := .type "module", dict := some 11 }
noncomputable def ob13 (P : Params) : Obj := { cls := .type "dict", data := Data.dict #[ent P "__module__" 189 (.str "_frozen_importlib" 186), ent P "__firstlineno__" 190 (.int 971 187), ent P "__doc__" 191 (.builtin "_frozen_importlib.BuiltinImporter.__doc__:str#opaque"), ent P "_ORIGIN" 192 (.str "built-in" 188), ent P "find_spec" 193 (.builtin "_frozen_importlib.BuiltinImporter.find_spec#opaque"), ent P "create_module" 194 (.builtin "_frozen_importlib.BuiltinImporter.create_module#opaque"), ent P "exec_module" 195 (.builtin "_frozen_importlib.BuiltinImporter.exec_module#opaque"), ent P "get_code" 196 (.builtin "_frozen_importlib.BuiltinImporter.get_code#opaque"), ent P "get_source" 197 (.builtin "_frozen_importlib.BuiltinImporter.get_source#opaque"), ent P "is_package" 198 (.builtin "_frozen_importlib.BuiltinImporter.is_package#opaque"), ent P "load_module" 199 (.builtin "_frozen_importlib.BuiltinImporter.load_module#opaque"), ent P "__static_attributes__" 200 (.ref 15), ent P "__dict__" 202 (.ref 16), ent P "__weakref__" 204 (.ref 17)] 14 }
noncomputable def ob14 (P : Params) : Obj := { cls := .type "type", data := Data.cls { name := Str.ofString "BuiltinImporter", bases := [.type "object"], mro := [.ref 14, .type "object"], ns := 13, qualname := Str.ofString "BuiltinImporter" } }
noncomputable def ob15 (P : Params) : Obj := { cls := .type "getset_descriptor", data := Data.fields #[.str "__dict__" 201, .ref 14, .builtin "function.__dict__", .builtin "function.__dict__#set"] }
noncomputable def ob16 (P : Params) : Obj := { cls := .type "getset_descriptor", data := Data.fields #[.str "__weakref__" 203, .ref 14, .builtin "ExceptionGroup.__weakref__", .none] }
noncomputable def ob17 (P : Params) : Obj := { cls := .none, data := Data.seq #[.int 13 0, .str ⟨#[6, 189, 10, 95, 95, 109, 111, 100, 117, 108, 101, 95, 95, 6, 186, 17, 95, 102, 114, 111, 122, 101, 110, 95, 105, 109, 112, 111, 114, 116, 108, 105, 98, 6, 190, 15, 95, 95, 102, 105, 114, 115, 116, 108, 105, 110, 101, 110, 111, 95, 95, 4, 187, 0, 971, 6, 191, 7, 95, 95, 100, 111, 99, 95, 95, 9, 52, 95, 102, 114, 111, 122, 101, 110, 95, 105, 109, 112, 111, 114, 116, 108, 105, 98, 46, 66, 117, 105, 108, 116, 105, 110, 73, 109, 112, 111, 114, 116, 101, 114, 46, 95, 95, 100, 111, 99, 95, 95, 58, 115, 116, 114, 35, 111, 112, 97, 113, 117, 101, 6, 192, 7, 95, 79, 82, 73, 71, 73, 78, 6, 188, 8, 98, 117, 105, 108, 116, 45, 105, 110, 6, 193, 9, 102, 105, 110, 100, 95, 115, 112, 101, 99, 9, 50, 95, 102, 114, 111, 122, 101, 110, 95, 105, 109, 112, 111, 114, 116, 108, 105, 98, 46, 66, 117, 105, 108, 116, 105, 110, 73, 109, 112, 111, 114, 116, 101, 114, 46, 102, 105, 110, 100, 95, 115, 112, 101, 99, 35, 111, 112, 97, 113, 117, 101, 6, 194, 13, 99, 114, 101, 97, 116, 101, 95, 109, 111, 100, 117, 108, 101, 9, 54, 95, 102, 114, 111, 122, 101, 110, 95, 105, 109, 112, 111, 114, 116, 108, 105, 98, 46, 66, 117, 105, 108, 116, 105, 110, 73, 109, 112, 111, 114, 116, 101, 114, 46, 99, 114, 101, 97, 116, 101, 95, 109, 111, 100, 117, 108, 101, 35, 111, 112, 97, 113, 117, 101, 6, 195, 11, 101, 120, 101, 99, 95, 109, 111, 100, 117, 108, 101, 9, 52, 95, 102, 114, 111, 122, 101, 110, 95, 105, 109, 112, 111, 114, 116, 108, 105, 98, 46, 66, 117, 105, 108, 116, 105, 110, 73, 109, 112, 111, 114, 116, 101, 114, 46, 101, 120, 101, 99, 95, 109, 111, 100, 117, 108, 101, 35, 111, 112, 97, 113, 117, 101, 6, 196, 8, 103, 101, 116, 95, 99, 111, 100, 101, 9, 49, 95, 102, 114, 111, 122, 101, 110, 95, 105, 109, 112, 111, 114, 116, 108, 105, 98, 46, 66, 117, 105, 108, 116, 105, 110, 73, 109, 112, 111, 114, 116, 101, 114, 46, 103, 101, 116, 95, 99, 111, 100, 101, 35, 111, 112, 97, 113, 117, 101, 6, 197, 10, 103, 101, 116, 95, 115, 111, 117, 114, 99, 101, 9, 51, 95, 102, 114, 111, 122, 101, 110, 95, 105, 109, 112, 111, 114, 116, 108, 105, 98, 46, 66, 117, 105, 108, 116, 105, 110, 73, 109, 112, 111, 114, 116, 101, 114, 46, 103, 101, 116, 95, 115, 111, 117, 114, 99, 101, 35, 111, 112, 97, 113, 117, 101, 6, 198, 10, 105, 115, 95, 112, 97, 99, 107, 97, 103, 101, 9, 51, 95, 102, 114, 111, 122, 101, 110, 95, 105, 109, 112, 111, 114, 116, 108, 105, 98, 46, 66, 117, 105, 108, 116, 105, 110, 73, 109, 112, 111, 114, 116, 101, 114, 46, 105, 115, 95, 112, 97, 99, 107, 97, 103, 101, 35, 111, 112, 97, 113, 117, 101, 6, 199, 11, 108, 111, 97, 100, 95, 109, 111, 100, 117, 108, 101, 9, 52, 95, 102, 114, 111, 122, 101, 110, 95, 105, 109, 112, 111, 114, 116, 108, 105, 98, 46, 66, 117, 105, 108, 116, 105, 110, 73, 109, 112, 111, 114, 116, 101, 114, 46, 108, 111, 97, 100, 95, 109, 111, 100, 117, 108, 101, 35, 111, 112, 97, 113, 117, 101, 6, 200, 21, 95, 95, 115, 116, 97, 116, 105, 99, 95, 97, 116, 116, 114, 105, 98, 117, 116, 101, 115, 95, 95, 4, 0, 0, 15, 6, 202, 8, 95, 95, 100, 105, 99, 116, 95, 95, 4, 0, 0, 16, 6, 204, 11, 95, 95, 119, 101, 97, 107, 114, 101, 102, 95, 95, 4, 0, 0, 17]⟩ 0, .bool true, .bool true, .str "" 205, .int 21 0, .str ⟨#[6, 227, 10, 95, 95, 109, 111, 100, 117, 108, 101, 95, 95, 6, 217, 17, 95, 102, 114, 111, 122, 101, 110, 95, 105, 109, 112, 111, 114, 116, 108, 105, 98, 6, 228, 15, 95, 95, 102, 105, 114, 115, 116, 108, 105, 110, 101, 110, 111, 95, 95, 4, 218, 0, 562, 6, 229, 7, 95, 95, 100, 111, 99, 95, 95, 9, 47, 95, 102, 114, 111, 122, 101, 110, 95, 105, 109, 112, 111, 114, 116, 108, 105, 98, 46, 77, 111, 100, 117, 108, 101, 83, 112, 101, 99, 46, 95, 95, 100, 111, 99, 95, 95, 58, 115, 116, 114, 35, 111, 112, 97, 113, 117, 101, 6, 230, 8, 95, 95, 105, 110, 105, 116, 95, 95, 9, 44, 95, 102, 114, 111, 122, 101, 110, 95, 105, 109, 112, 111, 114, 116, 108, 105, 98, 46, 77, 111, 100, 117, 108, 101, 83, 112, 101, 99, 46, 95, 95, 105, 110, 105, 116, 95, 95, 35, 111, 112, 97, 113, 117, 101, 6, 231, 8, 95, 95, 114, 101, 112, 114, 95, 95, 9, 44, 95, 102, 114, 111, 122, 101, 110, 95, 105, 109, 112, 111, 114, 116, 108, 105, 98, 46, 77, 111, 100, 117, 108, 101, 83, 112, 101, 99, 46, 95, 95, 114, 101, 112, 114, 95, 95, 35, 111, 112, 97, 113, 117, 101, 6, 232, 6, 95, 95, 101, 113, 95, 95, 9, 42, 95, 102, 114, 111, 122, 101, 110, 95, 105, 109, 112, 111, 114, 116, 108, 105, 98, 46, 77, 111, 100, 117, 108, 101, 83, 112, 101, 99, 46, 95, 95, 101, 113, 95, 95, 35, 111, 112, 97, 113, 117, 101, 6, 233, 6, 99, 97, 99, 104, 101, 100, 9, 42, 95, 102, 114, 111, 122, 101, 110, 95, 105, 109, 112, 111, 114, 116, 108, 105, 98, 46, 77, 111, 100, 117, 108, 101, 83, 112, 101, 99, 46, 99, 97, 99, 104, 101, 100, 35, 111, 112, 97, 113, 117, 101, 6, 234, 6, 112, 97, 114, 101, 110, 116, 9, 42, 95, 102, 114, 111, 122, 101, 110, 95, 105, 109, 112, 111, 114, 116, 108, 105, 98, 46, 77, 111, 100, 117, 108, 101, 83, 112, 101, 99, 46, 112, 97, 114, 101, 110, 116, 35, 111, 112, 97, 113, 117, 101, 6, 235, 12, 104, 97, 115, 95, 108, 111, 99, 97, 116, 105, 111, 110, 9, 48, 95, 102, 114, 111, 122, 101, 110, 95, 105, 109, 112, 111, 114, 116, 108, 105, 98, 46, 77, 111, 100, 117, 108, 101, 83, 112, 101, 99, 46, 104, 97, 115, 95, 108, 111, 99, 97, 116, 105, 111, 110, 35, 111, 112, 97, 113, 117, 101, 6, 236, 21, 95, 95, 115, 116, 97, 116, 105, 99, 95, 97, 116, 116, 114, 105, 98, 117, 116, 101, 115, 95, 95, 4, 0, 0, 23, 6, 238, 8, 95, 95, 100, 105, 99, 116, 95, 95, 4, 0, 0, 24, 6, 240, 11, 95, 95, 119, 101, 97, 107, 114, 101, 102, 95, 95, 4, 0, 0, 25, 6, 241, 8, 95, 95, 104, 97, 115, 104, 95, 95, 0]⟩ 0, .bool true, .bool true, .str "" 242] 1 }
noncomputable def ob18 (P : Params) : Obj := { cls := .type "list", data := Data.seq #[] }
noncomputable def ob19 (P : Params) : Obj := { cls := .type "dict", data := Data.dict #[ent P "name" 208 (.str "_sre" 207), ent P "loader" 209 (.ref 14), ent P "origin" 210 (.str "built-in" 184), ent P "loader_state" 211 .none, ent P "submodule_search_locations" 212 .none, ent P "_uninitialized_submodules" 213 (.ref 19), ent P "_set_fileattr" 214 (.bool false), ent P "_cached" 215 .none, ent P "_initializing" 243 (.bool false)] 9 }
noncomputable def ob20 (P : Params) : Obj := { cls := .type "dict", data := Data.dict #[ent P "__module__" 227 (.str "_frozen_importlib" 217), ent P "__firstlineno__" 228 (.int 562 218), ent P "__doc__" 229 (.builtin "_frozen_importlib.ModuleSpec.__doc__:str#opaque"), ent P "__init__" 230 (.builtin "_frozen_importlib.ModuleSpec.__init__#opaque"), ent P "__repr__" 231 (.builtin "_frozen_importlib.ModuleSpec.__repr__#opaque"), ent P "__eq__" 232 (.builtin "_frozen_importlib.ModuleSpec.__eq__#opaque"), ent P "cached" 233 (.builtin "_frozen_importlib.ModuleSpec.cached#opaque"), ent P "parent" 234 (.builtin "_frozen_importlib.ModuleSpec.parent#opaque"), ent P "has_location" 235 (.builtin "_frozen_importlib.ModuleSpec.has_location#opaque"), ent P "__static_attributes__" 236 (.ref 23), ent P "__dict__" 238 (.ref 24), ent P "__weakref__" 240 (.ref 25), ent P "__hash__" 241 .none] 13 }
noncomputable def ob21 (P : Params) : Obj := { cls := .type "type", data := Data.cls { name := Str.ofString "ModuleSpec", bases := [.type "object"], mro := [.ref 22, .type "object"], ns := 21, qualname := Str.ofString "ModuleSpec" } }
noncomputable def ob22 (P : Params) : Obj := { cls := .type "tuple", data := Data.seq #[.str "_cached" 219, .str "_set_fileattr" 220, .str "_uninitialized_submodules" 221, .str "loader" 222, .str "loader_state" 223, .str "name" 224, .str "origin" 225, .str "submodule_search_locations" 226] }
noncomputable def ob23 (P : Params) : Obj := { cls := .type "getset_descriptor", data := Data.fields #[.str "__dict__" 237, .ref 22, .builtin "function.__dict__", .builtin "function.__dict__#set"] }
noncomputable def ob24 (P : Params) : Obj := { cls := .type "getset_descriptor", data := Data.fields #[.str "__weakref__" 239, .ref 22, .builtin "ExceptionGroup.__weakref__", .none] }
noncomputable def ob25 (P : Params) : Obj := { cls := .ref 22, dict := some 20 }
noncomputable def ob26 (P : Params) : Obj := { cls := .none, data := Data.seq #[.int 11 0, .str { cps := #[6, 247, 8, 95, 95, 110, 97, 109, 101, 95, 95, 6, 246, 4, 95, 115, 114, 101, 6, 248, 7, 95, 95, 100, 111, 99, 95, 95, 0, 6, 250, 11, 95, 95, 112, 97, 99, 107, 97, 103, 101, 95, 95, 6, 249, 0, 6, 251, 10, 95, 95, 108, 111, 97, 100, 101, 114, 95, 95, 4, 0, 0, 14, 6, 252, 8, 95, 95, 115, 112, 101, 99, 95, 95, 4, 0, 0, 26, 6, 253, 7, 99, 111, 109, 112, 105, 108, 101, 9, 12, 95, 115, 114, 101, 46, 99, 111, 109, 112, 105, 108, 101, 6, 254, 8, 116, 101, 109, 112, 108, 97, 116, 101, 9, 13, 95, 115, 114, 101, 46, 116, 101, 109, 112, 108, 97, 116, 101, 6, 255, 11, 103, 101, 116, 99, 111, 100, 101, 115, 105, 122, 101, 9, 16, 95, 115, 114, 101, 46, 103, 101, 116, 99, 111, 100, 101, 115, 105, 122, 101, 6, 256, 13, 97, 115, 99, 105, 105, 95, 105, 115, 99, 97, 115, 101, 100, 9, 18, 95, 115, 114, 101, 46, 97, 115, 99, 105, 105, 95, 105, 115, 99, 97, 115, 101, 100, 6, 257, 15, 117, 110, 105, 99, 111, 100, 101, 95, 105, 115, 99, 97, 115, 101, 100, 9, 20, 95, 115, 114, 101, 46, 117, 110, 105, 99, 111, 100, 101, 95, 105, 115, 99, 97, 115, 101, 100, 6, 258, 13, 97, 115, 99, 105, 105, 95, 116, 111, 108, 111, 119, 101, 114, 9, 18, 95, 115, 114, 101, 46, 97, 115, 99, 105, 105, 95, 116, 111, 108, 111, 119, 101, 114, 6, 259, 15, 117, 110, 105, 99, 111, 100, 101, 95, 116, 111, 108, 111, 119, 101, 114, 9, 20, 95, 115, 114, 101, 46, 117, 110, 105, 99, 111, 100, 101, 95, 116, 111, 108, 111, 119, 101, 114, 6, 261, 5, 77, 65, 71, 73, 67, 4, 260, 0, 20230612, 6, 263, 8, 67, 79, 68, 69, 83, 73, 90, 69, 4, 262, 0, 4, 6, 265, 9, 77, 65, 88, 82, 69, 80, 69, 65, 84, 4, 264, 0, 4294967295, 6, 267, 9, 77, 65, 88, 71, 82, 79, 85, 80, 83, 4, 266, 0, 1073741823, 6, 269, 9, 99, 111, 112, 121, 114, 105, 103, 104, 116, 6, 268, 53, 32, 83, 82, 69, 32, 50, 46, 50, 46, 50, 32, 67, 111, 112, 121, 114, 105, 103, 104, 116, 32, 40, 99, 41, 32, 49, 57, 57, 55, 45, 50, 48, 48, 50, 32, 98, 121, 32, 83, 101, 99, 114, 101, 116, 32, 76, 97, 98, 115, 32, 65, 66, 32] } 0, .bool true, .bool false, .str "_sre" 271] }
noncomputable def ob27 (P : Params) : Obj := { cls := .type "code", data := Data.fields #[.str "<module>" 277, .str "<module>" 278, .str "/claim/cut.py" 279, .int 1 0, .int 0 0, .int 0 0, .int 0 0, .int 0 0, .ref 28, .bool false, .int 276 0, .ref 29, .none, .none, .none, .none, .int 280 0, .int 1 0, .str "/claim/cut.py" 281] }
noncomputable def ob28 (P : Params) : Obj := { cls := .type "frame", slots := #[some (.ref 30), some (.ref 3), some (.ref 3), none, some (.str "__main__" 164), none, some (.ref 0)] }
noncomputable def ob29 (P : Params) : Obj := { cls := .type "dict", data := Data.dict #[ent P "__name__" 165 (.str "cpy313.stat" 282), ent P "__doc__" 166 .none, ent P "__package__" 167 .none, ent P "__loader__" 168 (.builtin "__main__.__loader__#opaque"), ent P "__spec__" 169 .none, ent P "__annotations__" 170 (.ref 6), ent P "__builtins__" 171 (.ref 4), ent P "__file__" 173 (.str "/claim/cut.py" 172), ent P "__cached__" 174 .none, ent P "_sre" 275 (.ref 12), ent P "S_IFMT" 290 (.ref 38), ent P "S_IFDIR" 292 (.int 16384 291), ent P "S_IFCHR" 294 (.int 8192 293), ent P "S_IFBLK" 296 (.int 24576 295), ent P "S_IFREG" 298 (.int 32768 297), ent P "S_IFIFO" 300 (.int 4096 299), ent P "S_IFLNK" 302 (.int 40960 301), ent P "S_IFSOCK" 304 (.int 49152 303), ent P "S_ISUID" 306 (.int 2048 305), ent P "S_ISGID" 308 (.int 1024 307), ent P "S_ISVTX" 310 (.int 512 309), ent P "S_IRUSR" 312 (.int 256 311), ent P "S_IWUSR" 314 (.int 128 313), ent P "S_IXUSR" 316 (.int 64 315), ent P "S_IRGRP" 318 (.int 32 317), ent P "S_IWGRP" 320 (.int 16 319), ent P "S_IXGRP" 322 (.int 8 321), ent P "S_IROTH" 324 (.int 4 323), ent P "S_IWOTH" 326 (.int 2 325), ent P "S_IXOTH" 328 (.int 1 327)] 30 }
noncomputable def ob30 (P : Params) : Obj := { cls := .none, data := Data.fields #[.int 3 0, .int 0 0, .ref 37] }
noncomputable def ob31 (P : Params) : Obj := { cls := .type "tuple", data := Data.seq #[.str "mode" 287] }
noncomputable def ob32 (P : Params) : Obj := { cls := .none, data := .func { name := "S_IFMT", qualname := "S_IFMT", params := argsOf 2, body := .stmts (bodyOf 2), scope := scopeOf 2, globals := 0, closure := [], defaults := .none, kwdefaults := .none, doc := .none, pyModule := .none, annotations := (none), code := .none, closureTuple := .none, builtins := 0 } }
noncomputable def ob33 (P : Params) : Obj := { cls := .type "code", data := Data.fields #[.str "S_IFMT" 284, .str "S_IFMT" 285, .str "/claim/cut.py" 286, .int 3 0, .int 1 0, .int 0 0, .int 0 0, .int 3 0, .ref 32, .bool true, .int 276 0, .ref 33, .none, .ref 34, .ref 35, .ref 36, .int 288 0, .int 3 0, .str "/claim/cut.py" 289] }
noncomputable def ob34 (P : Params) : Obj := fnO 2 "S_IFMT" 37 (.str "cpy313.stat" 282)
noncomputable def ob35 (P : Params) : Obj := { cls := .type "dict", data := Data.dict #[ent P "__name__" 165 (.str "cpy313.stat" 282), ent P "__doc__" 166 .none, ent P "__package__" 167 .none, ent P "__loader__" 168 (.builtin "__main__.__loader__#opaque"), ent P "__spec__" 169 .none, ent P "__annotations__" 170 (.ref 6), ent P "__builtins__" 171 (.ref 4), ent P "__file__" 173 (.str "/claim/cut.py" 172), ent P "__cached__" 174 .none, ent P "_sre" 275 (.ref 12), ent P "S_IFMT" 290 (.ref 38), ent P "S_IFDIR" 292 (.int 16384 291), ent P "S_IFCHR" 294 (.int 8192 293), ent P "S_IFBLK" 296 (.int 24576 295), ent P "S_IFREG" 298 (.int 32768 297), ent P "S_IFIFO" 300 (.int 4096 299), ent P "S_IFLNK" 302 (.int 40960 301), ent P "S_IFSOCK" 304 (.int 49152 303), ent P "S_ISUID" 306 (.int 2048 305), ent P "S_ISGID" 308 (.int 1024 307), ent P "S_ISVTX" 310 (.int 512 309), ent P "S_IRUSR" 312 (.int 256 311), ent P "S_IWUSR" 314 (.int 128 313), ent P "S_IXUSR" 316 (.int 64 315), ent P "S_IRGRP" 318 (.int 32 317), ent P "S_IWGRP" 320 (.int 16 319), ent P "S_IXGRP" 322 (.int 8 321), ent P "S_IROTH" 324 (.int 4 323), ent P "S_IWOTH" 326 (.int 2 325), ent P "S_IXOTH" 328 (.int 1 327), ent P "_filemode_table" 354 (.ref 71)] 31 }
noncomputable def ob36 (P : Params) : Obj := { cls := .type "tuple", data := Data.seq #[.int 40960 301, .str "l" 329] }
noncomputable def ob37 (P : Params) : Obj := { cls := .type "tuple", data := Data.seq #[.int 49152 303, .str "s" 330] }
noncomputable def ob38 (P : Params) : Obj := { cls := .type "tuple", data := Data.seq #[.int 32768 297, .str "-" 331] }
noncomputable def ob39 (P : Params) : Obj := { cls := .type "tuple", data := Data.seq #[.int 24576 295, .str "b" 332] }
noncomputable def ob40 (P : Params) : Obj := { cls := .type "tuple", data := Data.seq #[.int 16384 291, .str "d" 333] }
noncomputable def ob41 (P : Params) : Obj := { cls := .type "tuple", data := Data.seq #[.int 8192 293, .str "c" 334] }
noncomputable def ob42 (P : Params) : Obj := { cls := .type "tuple", data := Data.seq #[.int 4096 299, .str "p" 335] }
noncomputable def ob43 (P : Params) : Obj := { cls := .type "tuple", data := Data.seq #[.ref 39, .ref 40, .ref 41, .ref 42, .ref 43, .ref 44, .ref 45] }
noncomputable def ob44 (P : Params) : Obj := { cls := .type "tuple", data := Data.seq #[.int 256 311, .str "r" 336] }
noncomputable def ob45 (P : Params) : Obj := { cls := .type "tuple", data := Data.seq #[.ref 47] }
noncomputable def ob46 (P : Params) : Obj := { cls := .type "tuple", data := Data.seq #[.int 128 313, .str "w" 337] }
noncomputable def ob47 (P : Params) : Obj := { cls := .type "tuple", data := Data.seq #[.ref 49] }
noncomputable def ob48 (P : Params) : Obj := { cls := .type "tuple", data := Data.seq #[.int 2112 338, .str "s" 339] }
noncomputable def ob49 (P : Params) : Obj := { cls := .type "tuple", data := Data.seq #[.int 2048 305, .str "S" 340] }
noncomputable def ob50 (P : Params) : Obj := { cls := .type "tuple", data := Data.seq #[.int 64 315, .str "x" 341] }
noncomputable def ob51 (P : Params) : Obj := { cls := .type "tuple", data := Data.seq #[.ref 51, .ref 52, .ref 53] }
noncomputable def ob52 (P : Params) : Obj := { cls := .type "tuple", data := Data.seq #[.int 32 317, .str "r" 342] }
noncomputable def ob53 (P : Params) : Obj := { cls := .type "tuple", data := Data.seq #[.ref 55] }
noncomputable def ob54 (P : Params) : Obj := { cls := .type "tuple", data := Data.seq #[.int 16 319, .str "w" 343] }
noncomputable def ob55 (P : Params) : Obj := { cls := .type "tuple", data := Data.seq #[.ref 57] }
noncomputable def ob56 (P : Params) : Obj := { cls := .type "tuple", data := Data.seq #[.int 1032 344, .str "s" 345] }
noncomputable def ob57 (P : Params) : Obj := { cls := .type "tuple", data := Data.seq #[.int 1024 307, .str "S" 346] }
noncomputable def ob58 (P : Params) : Obj := { cls := .type "tuple", data := Data.seq #[.int 8 321, .str "x" 347] }
noncomputable def ob59 (P : Params) : Obj := { cls := .type "tuple", data := Data.seq #[.ref 59, .ref 60, .ref 61] }
noncomputable def ob60 (P : Params) : Obj := { cls := .type "tuple", data := Data.seq #[.int 4 323, .str "r" 348] }
noncomputable def ob61 (P : Params) : Obj := { cls := .type "tuple", data := Data.seq #[.ref 63] }
noncomputable def ob62 (P : Params) : Obj := { cls := .type "tuple", data := Data.seq #[.int 2 325, .str "w" 349] }
noncomputable def ob63 (P : Params) : Obj := { cls := .type "tuple", data := Data.seq #[.ref 65] }
noncomputable def ob64 (P : Params) : Obj := { cls := .type "tuple", data := Data.seq #[.int 513 350, .str "t" 351] }
noncomputable def ob65 (P : Params) : Obj := { cls := .type "tuple", data := Data.seq #[.int 512 309, .str "T" 352] }
noncomputable def ob66 (P : Params) : Obj := { cls := .type "tuple", data := Data.seq #[.int 1 327, .str "x" 353] }
noncomputable def ob67 (P : Params) : Obj := { cls := .type "tuple", data := Data.seq #[.ref 67, .ref 68, .ref 69] }
noncomputable def ob68 (P : Params) : Obj := { cls := .type "tuple", data := Data.seq #[.ref 46, .ref 48, .ref 50, .ref 54, .ref 56, .ref 58, .ref 62, .ref 64, .ref 66, .ref 70] }
noncomputable def ob69 (P : Params) : Obj := { cls := .type "dict", data := Data.dict #[ent P "__name__" 165 (.str "cpy313.fnmatch" 367), ent P "__doc__" 166 .none, ent P "__package__" 167 .none, ent P "__loader__" 168 (.builtin "__main__.__loader__#opaque"), ent P "__spec__" 169 .none, ent P "__annotations__" 170 (.ref 6), ent P "__builtins__" 171 (.ref 4), ent P "__file__" 173 (.str "/claim/cut.py" 172), ent P "__cached__" 174 .none, ent P "_sre" 275 (.ref 12), ent P "S_IFMT" 290 (.ref 38), ent P "S_IFDIR" 292 (.int 16384 291), ent P "S_IFCHR" 294 (.int 8192 293), ent P "S_IFBLK" 296 (.int 24576 295), ent P "S_IFREG" 298 (.int 32768 297), ent P "S_IFIFO" 300 (.int 4096 299), ent P "S_IFLNK" 302 (.int 40960 301), ent P "S_IFSOCK" 304 (.int 49152 303), ent P "S_ISUID" 306 (.int 2048 305), ent P "S_ISGID" 308 (.int 1024 307), ent P "S_ISVTX" 310 (.int 512 309), ent P "S_IRUSR" 312 (.int 256 311), ent P "S_IWUSR" 314 (.int 128 313), ent P "S_IXUSR" 316 (.int 64 315), ent P "S_IRGRP" 318 (.int 32 317), ent P "S_IWGRP" 320 (.int 16 319), ent P "S_IXGRP" 322 (.int 8 321), ent P "S_IROTH" 324 (.int 4 323), ent P "S_IWOTH" 326 (.int 2 325), ent P "S_IXOTH" 328 (.int 1 327), ent P "_filemode_table" 354 (.ref 71), ent P "filemode" 366 (.ref 78)] 32 }
noncomputable def ob70 (P : Params) : Obj := { cls := .none, data := Data.fields #[.int 3 0, .int 0 0, .ref 37, .int 25 0, .int 0 0, .ref 77] }
noncomputable def ob71 (P : Params) : Obj := { cls := .type "tuple", data := Data.seq #[.str "mode" 358, .str "perm" 359, .str "index" 360, .str "table" 361, .str "bit" 362, .str "char" 363] }
noncomputable def ob72 (P : Params) : Obj := { cls := .none, data := .func { name := "filemode", qualname := "filemode", params := argsOf 23, body := .stmts (bodyOf 23), scope := scopeOf 23, globals := 0, closure := [], defaults := .none, kwdefaults := .none, doc := .none, pyModule := .none, annotations := (none), code := .none, closureTuple := .none, builtins := 0 } }
noncomputable def ob73 (P : Params) : Obj := { cls := .type "code", data := Data.fields #[.str "filemode" 355, .str "filemode" 356, .str "/claim/cut.py" 357, .int 25 0, .int 1 0, .int 0 0, .int 0 0, .int 3 0, .ref 72, .bool true, .int 276 0, .ref 73, .none, .ref 74, .ref 75, .ref 76, .int 364 0, .int 25 0, .str "/claim/cut.py" 365] }
noncomputable def ob74 (P : Params) : Obj := fnO 23 "filemode" 77 (.str "cpy313.stat" 282)
noncomputable def ob75 (P : Params) : Obj := { cls := .type "dict", data := Data.dict #[ent P "__name__" 165 (.str "cpy313.fnmatch" 367), ent P "__doc__" 166 .none, ent P "__package__" 167 .none, ent P "__loader__" 168 (.builtin "__main__.__loader__#opaque"), ent P "__spec__" 169 .none, ent P "__annotations__" 170 (.ref 6), ent P "__builtins__" 171 (.ref 4), ent P "__file__" 173 (.str "/claim/cut.py" 172), ent P "__cached__" 174 .none, ent P "_sre" 275 (.ref 12), ent P "S_IFMT" 290 (.ref 38), ent P "S_IFDIR" 292 (.int 16384 291), ent P "S_IFCHR" 294 (.int 8192 293), ent P "S_IFBLK" 296 (.int 24576 295), ent P "S_IFREG" 298 (.int 32768 297), ent P "S_IFIFO" 300 (.int 4096 299), ent P "S_IFLNK" 302 (.int 40960 301), ent P "S_IFSOCK" 304 (.int 49152 303), ent P "S_ISUID" 306 (.int 2048 305), ent P "S_ISGID" 308 (.int 1024 307), ent P "S_ISVTX" 310 (.int 512 309), ent P "S_IRUSR" 312 (.int 256 311), ent P "S_IWUSR" 314 (.int 128 313), ent P "S_IXUSR" 316 (.int 64 315), ent P "S_IRGRP" 318 (.int 32 317), ent P "S_IWGRP" 320 (.int 16 319), ent P "S_IXGRP" 322 (.int 8 321), ent P "S_IROTH" 324 (.int 4 323), ent P "S_IWOTH" 326 (.int 2 325), ent P "S_IXOTH" 328 (.int 1 327), ent P "_filemode_table" 354 (.ref 71), ent P "filemode" 366 (.ref 78), ent P "_twin_re_1" 406 (.ref 83)] 33 }
noncomputable def ob76 (P : Params) : Obj := { cls := .type "list", data := Data.seq #[.int 14 372, .int 14 373, .int 4 374, .int 1 375, .int 1 376, .int 9 377, .int 0 378, .int 64 379, .int 0 380, .int 1342177280 381, .int 0 382, .int 0 383, .int 0 384, .int 0 385, .int 0 386, .int 17 387, .int 0 388, .int 13 389, .int 11 390, .int 9 391, .int 0 392, .int 64 393, .int 0 394, .int 1342177280 395, .int 0 396, .int 0 397, .int 0 398, .int 0 399, .int 0 400, .int 17 401, .int 1 402, .int 1 403] }
noncomputable def ob77 (P : Params) : Obj := { cls := .type "tuple", data := Data.seq #[.none, .none] }
noncomputable def ob78 (P : Params) : Obj := { cls := .type "tuple", data := Data.seq #[.int 14 0, .int 14 0, .int 4 0, .int 1 0, .int 1 0, .int 9 0, .int 0 0, .int 64 0, .int 0 0, .int 1342177280 0, .int 0 0, .int 0 0, .int 0 0, .int 0 0, .int 0 0, .int 17 0, .int 0 0, .int 13 0, .int 11 0, .int 9 0, .int 0 0, .int 64 0, .int 0 0, .int 1342177280 0, .int 0 0, .int 0 0, .int 0 0, .int 0 0, .int 0 0, .int 17 0, .int 1 0, .int 1 0] }
noncomputable def ob79 (P : Params) : Obj := { cls := .type "re.Pattern", data := Data.fields #[.str "([&~|])" 370, .int 32 405, .int 1 0, .none, .none, .ref 82, .int 0 0] }
noncomputable def ob80 (P : Params) : Obj := { cls := .type "dict", data := Data.dict #[ent P "__name__" 165 (.str "re" 416), ent P "__doc__" 166 .none, ent P "__package__" 167 .none, ent P "__loader__" 168 (.builtin "__main__.__loader__#opaque"), ent P "__spec__" 169 .none, ent P "__annotations__" 170 (.ref 6), ent P "__builtins__" 171 (.ref 4), ent P "__file__" 173 (.str "/claim/cut.py" 172), ent P "__cached__" 174 .none, ent P "_sre" 275 (.ref 12), ent P "S_IFMT" 290 (.ref 38), ent P "S_IFDIR" 292 (.int 16384 291), ent P "S_IFCHR" 294 (.int 8192 293), ent P "S_IFBLK" 296 (.int 24576 295), ent P "S_IFREG" 298 (.int 32768 297), ent P "S_IFIFO" 300 (.int 4096 299), ent P "S_IFLNK" 302 (.int 40960 301), ent P "S_IFSOCK" 304 (.int 49152 303), ent P "S_ISUID" 306 (.int 2048 305), ent P "S_ISGID" 308 (.int 1024 307), ent P "S_ISVTX" 310 (.int 512 309), ent P "S_IRUSR" 312 (.int 256 311), ent P "S_IWUSR" 314 (.int 128 313), ent P "S_IXUSR" 316 (.int 64 315), ent P "S_IRGRP" 318 (.int 32 317), ent P "S_IWGRP" 320 (.int 16 319), ent P "S_IXGRP" 322 (.int 8 321), ent P "S_IROTH" 324 (.int 4 323), ent P "S_IWOTH" 326 (.int 2 325), ent P "S_IXOTH" 328 (.int 1 327), ent P "_filemode_table" 354 (.ref 71), ent P "filemode" 366 (.ref 78), ent P "_twin_re_1" 406 (.ref 83), ent P "translate" 415 (.ref 90)] 34 }
noncomputable def ob81 (P : Params) : Obj := { cls := .none, data := Data.fields #[.int 3 0, .int 0 0, .ref 37, .int 25 0, .int 0 0, .ref 77, .int 44 0, .int 0 0, .ref 89] }
noncomputable def ob82 (P : Params) : Obj := { cls := .type "tuple", data := Data.seq #[.str "pat" 410, .str "STAR" 411, .str "parts" 412] }
noncomputable def ob83 (P : Params) : Obj := { cls := .none, data := .func { name := "translate", qualname := "translate", params := argsOf 26, body := .stmts (bodyOf 26), scope := scopeOf 26, globals := 0, closure := [], defaults := .none, kwdefaults := .none, doc := .none, pyModule := .none, annotations := (none), code := .none, closureTuple := .none, builtins := 0 } }
noncomputable def ob84 (P : Params) : Obj := { cls := .type "code", data := Data.fields #[.str "translate" 407, .str "translate" 408, .str "/claim/cut.py" 409, .int 44 0, .int 1 0, .int 0 0, .int 0 0, .int 3 0, .ref 84, .bool true, .int 276 0, .ref 85, .none, .ref 86, .ref 87, .ref 88, .int 413 0, .int 44 0, .str "/claim/cut.py" 414] }
noncomputable def ob85 (P : Params) : Obj := fnO 26 "translate" 89 (.str "cpy313.fnmatch" 367)
noncomputable def ob86 (P : Params) : Obj := { cls := .type "dict", data := Data.dict #[ent P "__name__" 165 (.str "re" 416), ent P "__doc__" 166 .none, ent P "__package__" 167 .none, ent P "__loader__" 168 (.builtin "__main__.__loader__#opaque"), ent P "__spec__" 169 .none, ent P "__annotations__" 170 (.ref 6), ent P "__builtins__" 171 (.ref 4), ent P "__file__" 173 (.str "/claim/cut.py" 172), ent P "__cached__" 174 .none, ent P "_sre" 275 (.ref 12), ent P "S_IFMT" 290 (.ref 38), ent P "S_IFDIR" 292 (.int 16384 291), ent P "S_IFCHR" 294 (.int 8192 293), ent P "S_IFBLK" 296 (.int 24576 295), ent P "S_IFREG" 298 (.int 32768 297), ent P "S_IFIFO" 300 (.int 4096 299), ent P "S_IFLNK" 302 (.int 40960 301), ent P "S_IFSOCK" 304 (.int 49152 303), ent P "S_ISUID" 306 (.int 2048 305), ent P "S_ISGID" 308 (.int 1024 307), ent P "S_ISVTX" 310 (.int 512 309), ent P "S_IRUSR" 312 (.int 256 311), ent P "S_IWUSR" 314 (.int 128 313), ent P "S_IXUSR" 316 (.int 64 315), ent P "S_IRGRP" 318 (.int 32 317), ent P "S_IWGRP" 320 (.int 16 319), ent P "S_IXGRP" 322 (.int 8 321), ent P "S_IROTH" 324 (.int 4 323), ent P "S_IWOTH" 326 (.int 2 325), ent P "S_IXOTH" 328 (.int 1 327), ent P "_filemode_table" 354 (.ref 71), ent P "filemode" 366 (.ref 78), ent P "_twin_re_1" 406 (.ref 83), ent P "translate" 415 (.ref 90), ent P "_special_chars_map" 563 (.ref 92)] 35 }
noncomputable def ob87 (P : Params) : Obj := { cls := .type "bytes_iterator", data := Data.fields #[.none, .int 24 0] }
noncomputable def ob88 (P : Params) : Obj := { cls := .type "dict", data := Data.dict #[{ hash := 40, key := .int 40 419, val := .str ⟨#[92, 40]⟩ 423 }, { hash := 41, key := .int 41 425, val := .str ⟨#[92, 41]⟩ 429 }, { hash := 91, key := .int 91 431, val := .str ⟨#[92, 91]⟩ 435 }, { hash := 93, key := .int 93 437, val := .str ⟨#[92, 93]⟩ 441 }, { hash := 123, key := .int 123 443, val := .str ⟨#[92, 123]⟩ 447 }, { hash := 125, key := .int 125 449, val := .str ⟨#[92, 125]⟩ 453 }, { hash := 63, key := .int 63 455, val := .str ⟨#[92, 63]⟩ 459 }, { hash := 42, key := .int 42 461, val := .str ⟨#[92, 42]⟩ 465 }, { hash := 43, key := .int 43 467, val := .str ⟨#[92, 43]⟩ 471 }, { hash := 45, key := .int 45 473, val := .str ⟨#[92, 45]⟩ 477 }, { hash := 124, key := .int 124 479, val := .str ⟨#[92, 124]⟩ 483 }, { hash := 94, key := .int 94 485, val := .str ⟨#[92, 94]⟩ 489 }, { hash := 36, key := .int 36 491, val := .str ⟨#[92, 36]⟩ 495 }, { hash := 92, key := .int 92 497, val := .str ⟨#[92, 92]⟩ 501 }, { hash := 46, key := .int 46 503, val := .str ⟨#[92, 46]⟩ 507 }, { hash := 38, key := .int 38 509, val := .str ⟨#[92, 38]⟩ 513 }, { hash := 126, key := .int 126 515, val := .str ⟨#[92, 126]⟩ 519 }, { hash := 35, key := .int 35 521, val := .str ⟨#[92, 35]⟩ 525 }, { hash := 32, key := .int 32 527, val := .str ⟨#[92, 32]⟩ 531 }, { hash := 9, key := .int 9 533, val := .str ⟨#[92, 9]⟩ 537 }, { hash := 10, key := .int 10 539, val := .str ⟨#[92, 10]⟩ 543 }, { hash := 13, key := .int 13 545, val := .str ⟨#[92, 13]⟩ 549 }, { hash := 11, key := .int 11 551, val := .str ⟨#[92, 11]⟩ 555 }, { hash := 12, key := .int 12 557, val := .str ⟨#[92, 12]⟩ 561 }] 24 }
noncomputable def ob89 (P : Params) : Obj := { cls := .type "dict", data := Data.dict #[] 2 }
noncomputable def ob90 (P : Params) : Obj := { cls := .type "StopIteration", data := Data.fields #[.ref 94, .none, .none, .none, .bool false, .none] }
noncomputable def ob91 (P : Params) : Obj := { cls := .type "dict", data := Data.dict #[ent P "__name__" 165 (.str "law_ik0117_01" 615), ent P "__doc__" 166 .none, ent P "__package__" 167 .none, ent P "__loader__" 168 (.builtin "__main__.__loader__#opaque"), ent P "__spec__" 169 .none, ent P "__annotations__" 170 (.ref 6), ent P "__builtins__" 171 (.ref 4), ent P "__file__" 173 (.str "/claim/cut.py" 172), ent P "__cached__" 174 .none, ent P "_sre" 275 (.ref 12), ent P "S_IFMT" 290 (.ref 38), ent P "S_IFDIR" 292 (.int 16384 291), ent P "S_IFCHR" 294 (.int 8192 293), ent P "S_IFBLK" 296 (.int 24576 295), ent P "S_IFREG" 298 (.int 32768 297), ent P "S_IFIFO" 300 (.int 4096 299), ent P "S_IFLNK" 302 (.int 40960 301), ent P "S_IFSOCK" 304 (.int 49152 303), ent P "S_ISUID" 306 (.int 2048 305), ent P "S_ISGID" 308 (.int 1024 307), ent P "S_ISVTX" 310 (.int 512 309), ent P "S_IRUSR" 312 (.int 256 311), ent P "S_IWUSR" 314 (.int 128 313), ent P "S_IXUSR" 316 (.int 64 315), ent P "S_IRGRP" 318 (.int 32 317), ent P "S_IWGRP" 320 (.int 16 319), ent P "S_IXGRP" 322 (.int 8 321), ent P "S_IROTH" 324 (.int 4 323), ent P "S_IWOTH" 326 (.int 2 325), ent P "S_IXOTH" 328 (.int 1 327), ent P "_filemode_table" 354 (.ref 71), ent P "filemode" 366 (.ref 78), ent P "_twin_re_1" 406 (.ref 83), ent P "translate" 415 (.ref 90), ent P "_special_chars_map" 563 (.ref 92), ent P "escape" 570 (.ref 102), ent P "_translate" 591 (.ref 109), ent P "_join_translated_parts" 604 (.ref 116), ent P "_strcoll" 614 (.ref 123), ent P "_law_ranks" 627 (.ref 130)] 40 }
noncomputable def ob92 (P : Params) : Obj := { cls := .none, data := Data.fields #[.int 3 0, .int 0 0, .ref 37, .int 25 0, .int 0 0, .ref 77, .int 44 0, .int 0 0, .ref 89, .int 50 0, .int 0 0, .ref 101, .int 57 0, .int 0 0, .ref 108, .int 119 0, .int 0 0, .ref 115, .int 147 0, .int 0 0, .ref 122, .int 150 0, .int 0 0, .ref 129] }
noncomputable def ob93 (P : Params) : Obj := { cls := .type "tuple", data := Data.seq #[.str "pattern" 567] }
noncomputable def ob94 (P : Params) : Obj := { cls := .none, data := .func { name := "escape", qualname := "escape", params := argsOf 29, body := .stmts (bodyOf 29), scope := scopeOf 29, globals := 0, closure := [], defaults := .none, kwdefaults := .none, doc := .none, pyModule := .none, annotations := (none), code := .none, closureTuple := .none, builtins := 0 } }
noncomputable def ob95 (P : Params) : Obj := { cls := .type "code", data := Data.fields #[.str "escape" 564, .str "escape" 565, .str "/claim/cut.py" 566, .int 50 0, .int 1 0, .int 0 0, .int 0 0, .int 3 0, .ref 96, .bool true, .int 276 0, .ref 97, .none, .ref 98, .ref 99, .ref 100, .int 568 0, .int 50 0, .str "/claim/cut.py" 569] }
noncomputable def ob96 (P : Params) : Obj := fnO 29 "escape" 101 (.str "re" 416)
noncomputable def ob97 (P : Params) : Obj := { cls := .type "tuple", data := Data.seq #[.str "pat" 576, .str "STAR" 577, .str "QUESTION_MARK" 578, .str "res" 579, .str "add" 580, .str "i" 581, .str "n" 582, .str "c" 583, .str "j" 584, .str "stuff" 585, .str "chunks" 586, .str "k" 587, .str "chunk" 588] }
noncomputable def ob98 (P : Params) : Obj := { cls := .none, data := .func { name := "_translate", qualname := "_translate", params := argsOf 31, body := .stmts (bodyOf 31), scope := scopeOf 31, globals := 0, closure := [], defaults := .none, kwdefaults := .none, doc := .none, pyModule := .none, annotations := (none), code := .none, closureTuple := .none, builtins := 0 } }
noncomputable def ob99 (P : Params) : Obj := { cls := .type "code", data := Data.fields #[.str "_translate" 573, .str "_translate" 574, .str "/claim/cut.py" 575, .int 57 0, .int 3 0, .int 0 0, .int 0 0, .int 3 0, .ref 103, .bool true, .int 276 0, .ref 104, .none, .ref 105, .ref 106, .ref 107, .int 589 0, .int 57 0, .str "/claim/cut.py" 590] }
noncomputable def ob100 (P : Params) : Obj := fnO 31 "_translate" 108 (.str "cpy313.fnmatch" 571)
noncomputable def ob101 (P : Params) : Obj := { cls := .type "tuple", data := Data.seq #[.str "inp" 595, .str "STAR" 596, .str "res" 597, .str "add" 598, .str "i" 599, .str "n" 600, .str "fixed" 601] }
noncomputable def ob102 (P : Params) : Obj := { cls := .none, data := .func { name := "_join_translated_parts", qualname := "_join_translated_parts", params := argsOf 32, body := .stmts (bodyOf 32), scope := scopeOf 32, globals := 0, closure := [], defaults := .none, kwdefaults := .none, doc := .none, pyModule := .none, annotations := (none), code := .none, closureTuple := .none, builtins := 0 } }
noncomputable def ob103 (P : Params) : Obj := { cls := .type "code", data := Data.fields #[.str "_join_translated_parts" 592, .str "_join_translated_parts" 593, .str "/claim/cut.py" 594, .int 119 0, .int 2 0, .int 0 0, .int 0 0, .int 3 0, .ref 110, .bool true, .int 276 0, .ref 111, .none, .ref 112, .ref 113, .ref 114, .int 602 0, .int 119 0, .str "/claim/cut.py" 603] }
noncomputable def ob104 (P : Params) : Obj := fnO 32 "_join_translated_parts" 115 (.str "cpy313.fnmatch" 571)
noncomputable def ob105 (P : Params) : Obj := { cls := .type "tuple", data := Data.seq #[.str "a" 610, .str "b" 611] }
noncomputable def ob106 (P : Params) : Obj := { cls := .none, data := .func { name := "_strcoll", qualname := "_strcoll", params := argsOf 34, body := .stmts (bodyOf 34), scope := scopeOf 34, globals := 0, closure := [], defaults := .none, kwdefaults := .none, doc := .none, pyModule := .none, annotations := (none), code := .none, closureTuple := .none, builtins := 0 } }
noncomputable def ob107 (P : Params) : Obj := { cls := .type "code", data := Data.fields #[.str "_strcoll" 607, .str "_strcoll" 608, .str "/claim/cut.py" 609, .int 147 0, .int 2 0, .int 0 0, .int 0 0, .int 3 0, .ref 117, .bool true, .int 276 0, .ref 118, .none, .ref 119, .ref 120, .ref 121, .int 612 0, .int 147 0, .str "/claim/cut.py" 613] }
noncomputable def ob108 (P : Params) : Obj := fnO 34 "_strcoll" 122 (.str "cpy313.locale" 605)
noncomputable def ob109 (P : Params) : Obj := { cls := .type "tuple", data := Data.seq #[.str "mode" 620, .str "ranks" 621, .str "c" 622, .str "figure" 623, .str "above" 624] }
noncomputable def ob110 (P : Params) : Obj := { cls := .none, data := .func { name := "_law_ranks", qualname := "_law_ranks", params := argsOf 36, body := .stmts (bodyOf 36), scope := scopeOf 36, globals := 0, closure := [], defaults := .none, kwdefaults := .none, doc := .none, pyModule := .none, annotations := (none), code := .none, closureTuple := .none, builtins := 0 } }
noncomputable def ob111 (P : Params) : Obj := { cls := .type "code", data := Data.fields #[.str "_law_ranks" 617, .str "_law_ranks" 618, .str "/claim/cut.py" 619, .int 150 0, .int 1 0, .int 0 0, .int 0 0, .int 3 0, .ref 124, .bool true, .int 276 0, .ref 125, .none, .ref 126, .ref 127, .ref 128, .int 625 0, .int 150 0, .str "/claim/cut.py" 626] }
noncomputable def ob112 (P : Params) : Obj := fnO 36 "_law_ranks" 129 (.str "law_ik0117_01" 615)
noncomputable def ob113 (P : Params) : Obj := { cls := .type "dict", data := Data.dict #[ent P "__name__" 165 (.str "law_ik0117_01" 615), ent P "__doc__" 166 .none, ent P "__package__" 167 .none, ent P "__loader__" 168 (.builtin "__main__.__loader__#opaque"), ent P "__spec__" 169 .none, ent P "__annotations__" 170 (.ref 6), ent P "__builtins__" 171 (.ref 4), ent P "__file__" 173 (.str "/claim/cut.py" 172), ent P "__cached__" 174 .none, ent P "_sre" 275 (.ref 12), ent P "S_IFMT" 290 (.ref 38), ent P "S_IFDIR" 292 (.int 16384 291), ent P "S_IFCHR" 294 (.int 8192 293), ent P "S_IFBLK" 296 (.int 24576 295), ent P "S_IFREG" 298 (.int 32768 297), ent P "S_IFIFO" 300 (.int 4096 299), ent P "S_IFLNK" 302 (.int 40960 301), ent P "S_IFSOCK" 304 (.int 49152 303), ent P "S_ISUID" 306 (.int 2048 305), ent P "S_ISGID" 308 (.int 1024 307), ent P "S_ISVTX" 310 (.int 512 309), ent P "S_IRUSR" 312 (.int 256 311), ent P "S_IWUSR" 314 (.int 128 313), ent P "S_IXUSR" 316 (.int 64 315), ent P "S_IRGRP" 318 (.int 32 317), ent P "S_IWGRP" 320 (.int 16 319), ent P "S_IXGRP" 322 (.int 8 321), ent P "S_IROTH" 324 (.int 4 323), ent P "S_IWOTH" 326 (.int 2 325), ent P "S_IXOTH" 328 (.int 1 327), ent P "_filemode_table" 354 (.ref 71), ent P "filemode" 366 (.ref 78), ent P "_twin_re_1" 406 (.ref 83), ent P "translate" 415 (.ref 90), ent P "_special_chars_map" 563 (.ref 92), ent P "escape" 570 (.ref 102), ent P "_translate" 591 (.ref 109), ent P "_join_translated_parts" 604 (.ref 116), ent P "_strcoll" 614 (.ref 123), ent P "_law_ranks" 627 (.ref 130), ent P "_law_mode" 639 (.ref 137), ent P "_law_pattern" 650 (.ref 144), ent P "_law_sign" 658 (.ref 151), ent P "_law_ranges" 670 (.ref 158), ent P "_law_takes" 676 (.ref 163), ent P "_law_between" 682 (.ref 168), ent P "_law_ordered" 694 (.ref 175), ent P "law" 700 (.ref 180)] 48 }
noncomputable def ob114 (P : Params) : Obj := { cls := .none, data := Data.fields #[.int 3 0, .int 0 0, .ref 37, .int 25 0, .int 0 0, .ref 77, .int 44 0, .int 0 0, .ref 89, .int 50 0, .int 0 0, .ref 101, .int 57 0, .int 0 0, .ref 108, .int 119 0, .int 0 0, .ref 115, .int 147 0, .int 0 0, .ref 122, .int 150 0, .int 0 0, .ref 129, .int 156 0, .int 0 0, .ref 136, .int 162 0, .int 0 0, .ref 143, .int 172 0, .int 0 0, .ref 150, .int 176 0, .int 0 0, .ref 157, .int 191 0, .int 0 0, .ref 162, .int 195 0, .int 0 0, .ref 167, .int 197 0, .int 0 0, .ref 174, .int 201 0, .int 0 0, .ref 179] }
noncomputable def ob115 (P : Params) : Obj := { cls := .type "tuple", data := Data.seq #[.str "ranks" 631, .str "mode" 632, .str "c" 633, .str "r" 634, .str "w" 635, .str "run" 636] }
noncomputable def ob116 (P : Params) : Obj := { cls := .none, data := .func { name := "_law_mode", qualname := "_law_mode", params := argsOf 37, body := .stmts (bodyOf 37), scope := scopeOf 37, globals := 0, closure := [], defaults := .none, kwdefaults := .none, doc := .none, pyModule := .none, annotations := (none), code := .none, closureTuple := .none, builtins := 0 } }
noncomputable def ob117 (P : Params) : Obj := { cls := .type "code", data := Data.fields #[.str "_law_mode" 628, .str "_law_mode" 629, .str "/claim/cut.py" 630, .int 156 0, .int 1 0, .int 0 0, .int 0 0, .int 3 0, .ref 131, .bool true, .int 276 0, .ref 132, .none, .ref 133, .ref 134, .ref 135, .int 637 0, .int 156 0, .str "/claim/cut.py" 638] }
noncomputable def ob118 (P : Params) : Obj := fnO 37 "_law_mode" 136 (.str "law_ik0117_01" 615)
noncomputable def ob119 (P : Params) : Obj := { cls := .type "tuple", data := Data.seq #[.str "one" 643, .str "other" 644, .str "pattern" 645, .str "a" 646, .str "b" 647] }
noncomputable def ob120 (P : Params) : Obj := { cls := .none, data := .func { name := "_law_pattern", qualname := "_law_pattern", params := argsOf 38, body := .stmts (bodyOf 38), scope := scopeOf 38, globals := 0, closure := [], defaults := .none, kwdefaults := .none, doc := .none, pyModule := .none, annotations := (none), code := .none, closureTuple := .none, builtins := 0 } }
noncomputable def ob121 (P : Params) : Obj := { cls := .type "code", data := Data.fields #[.str "_law_pattern" 640, .str "_law_pattern" 641, .str "/claim/cut.py" 642, .int 162 0, .int 2 0, .int 0 0, .int 0 0, .int 3 0, .ref 138, .bool true, .int 276 0, .ref 139, .none, .ref 140, .ref 141, .ref 142, .int 648 0, .int 162 0, .str "/claim/cut.py" 649] }
noncomputable def ob122 (P : Params) : Obj := fnO 38 "_law_pattern" 143 (.str "law_ik0117_01" 615)
noncomputable def ob123 (P : Params) : Obj := { cls := .type "tuple", data := Data.seq #[.str "text" 654, .str "k" 655] }
noncomputable def ob124 (P : Params) : Obj := { cls := .none, data := .func { name := "_law_sign", qualname := "_law_sign", params := argsOf 39, body := .stmts (bodyOf 39), scope := scopeOf 39, globals := 0, closure := [], defaults := .none, kwdefaults := .none, doc := .none, pyModule := .none, annotations := (none), code := .none, closureTuple := .none, builtins := 0 } }
noncomputable def ob125 (P : Params) : Obj := { cls := .type "code", data := Data.fields #[.str "_law_sign" 651, .str "_law_sign" 652, .str "/claim/cut.py" 653, .int 172 0, .int 2 0, .int 0 0, .int 0 0, .int 3 0, .ref 145, .bool true, .int 276 0, .ref 146, .none, .ref 147, .ref 148, .ref 149, .int 656 0, .int 172 0, .str "/claim/cut.py" 657] }
noncomputable def ob126 (P : Params) : Obj := fnO 39 "_law_sign" 150 (.str "law_ik0117_01" 615)
noncomputable def ob127 (P : Params) : Obj := { cls := .type "tuple", data := Data.seq #[.str "text" 662, .str "ranges" 663, .str "k" 664, .str "inside" 665, .str "low" 666, .str "high" 667] }
noncomputable def ob128 (P : Params) : Obj := { cls := .none, data := .func { name := "_law_ranges", qualname := "_law_ranges", params := argsOf 40, body := .stmts (bodyOf 40), scope := scopeOf 40, globals := 0, closure := [], defaults := .none, kwdefaults := .none, doc := .none, pyModule := .none, annotations := (none), code := .none, closureTuple := .none, builtins := 0 } }
noncomputable def ob129 (P : Params) : Obj := { cls := .type "code", data := Data.fields #[.str "_law_ranges" 659, .str "_law_ranges" 660, .str "/claim/cut.py" 661, .int 176 0, .int 1 0, .int 0 0, .int 0 0, .int 3 0, .ref 152, .bool true, .int 276 0, .ref 153, .none, .ref 154, .ref 155, .ref 156, .int 668 0, .int 176 0, .str "/claim/cut.py" 669] }
noncomputable def ob130 (P : Params) : Obj := fnO 40 "_law_ranges" 157 (.str "law_ik0117_01" 615)
noncomputable def ob131 (P : Params) : Obj := { cls := .none, data := .func { name := "_law_takes", qualname := "_law_takes", params := argsOf 41, body := .stmts (bodyOf 41), scope := scopeOf 41, globals := 0, closure := [], defaults := .none, kwdefaults := .none, doc := .none, pyModule := .none, annotations := (none), code := .none, closureTuple := .none, builtins := 0 } }
noncomputable def ob132 (P : Params) : Obj := { cls := .type "code", data := Data.fields #[.str "_law_takes" 671, .str "_law_takes" 672, .str "/claim/cut.py" 673, .int 191 0, .int 2 0, .int 0 0, .int 0 0, .int 3 0, .ref 159, .bool true, .int 276 0, .ref 160, .none, .none, .none, .ref 161, .int 674 0, .int 191 0, .str "/claim/cut.py" 675] }
noncomputable def ob133 (P : Params) : Obj := fnO 41 "_law_takes" 162 (.str "law_ik0117_01" 615)
noncomputable def ob134 (P : Params) : Obj := { cls := .none, data := .func { name := "_law_between", qualname := "_law_between", params := argsOf 42, body := .stmts (bodyOf 42), scope := scopeOf 42, globals := 0, closure := [], defaults := .none, kwdefaults := .none, doc := .none, pyModule := .none, annotations := (none), code := .none, closureTuple := .none, builtins := 0 } }
noncomputable def ob135 (P : Params) : Obj := { cls := .type "code", data := Data.fields #[.str "_law_between" 677, .str "_law_between" 678, .str "/claim/cut.py" 679, .int 195 0, .int 3 0, .int 0 0, .int 0 0, .int 3 0, .ref 164, .bool true, .int 276 0, .ref 165, .none, .none, .none, .ref 166, .int 680 0, .int 195 0, .str "/claim/cut.py" 681] }
noncomputable def ob136 (P : Params) : Obj := fnO 42 "_law_between" 167 (.str "law_ik0117_01" 615)
noncomputable def ob137 (P : Params) : Obj := { cls := .type "tuple", data := Data.seq #[.str "one" 686, .str "other" 687, .str "ranks" 688, .str "others" 689, .str "told" 690, .str "due" 691] }
noncomputable def ob138 (P : Params) : Obj := { cls := .none, data := .func { name := "_law_ordered", qualname := "_law_ordered", params := argsOf 43, body := .stmts (bodyOf 43), scope := scopeOf 43, globals := 0, closure := [], defaults := .none, kwdefaults := .none, doc := .none, pyModule := .none, annotations := (none), code := .none, closureTuple := .none, builtins := 0 } }
noncomputable def ob139 (P : Params) : Obj := { cls := .type "code", data := Data.fields #[.str "_law_ordered" 683, .str "_law_ordered" 684, .str "/claim/cut.py" 685, .int 197 0, .int 4 0, .int 0 0, .int 0 0, .int 3 0, .ref 169, .bool true, .int 276 0, .ref 170, .none, .ref 171, .ref 172, .ref 173, .int 692 0, .int 197 0, .str "/claim/cut.py" 693] }
noncomputable def ob140 (P : Params) : Obj := fnO 43 "_law_ordered" 174 (.str "law_ik0117_01" 615)
noncomputable def ob141 (P : Params) : Obj := { cls := .none, data := .func { name := "law", qualname := "law", params := argsOf 44, body := .stmts (bodyOf 44), scope := scopeOf 44, globals := 0, closure := [], defaults := .none, kwdefaults := .none, doc := .none, pyModule := .none, annotations := (none), code := .none, closureTuple := .none, builtins := 0 } }
noncomputable def ob142 (P : Params) : Obj := { cls := .type "code", data := Data.fields #[.str "law" 695, .str "law" 696, .str "/claim/cut.py" 697, .int 201 0, .int 1 0, .int 0 0, .int 0 0, .int 3 0, .ref 176, .bool true, .int 276 0, .ref 177, .none, .none, .none, .ref 178, .int 698 0, .int 201 0, .str "/claim/cut.py" 699] }
noncomputable def ob143 (P : Params) : Obj := fnO 44 "law" 179 (.str "law_ik0117_01" 615)
noncomputable def ob144 (P : Params) : Obj := { cls := .type "dict", data := Data.dict #[ent P "__name__" 247 (.str "_sre" 246), ent P "__doc__" 248 .none, ent P "__package__" 250 (.str "" 249), ent P "__loader__" 251 (.ref 14), ent P "__spec__" 252 (.ref 26), ent P "compile" 253 (.builtin "_sre.compile"), ent P "template" 254 (.builtin "_sre.template"), ent P "getcodesize" 255 (.builtin "_sre.getcodesize"), ent P "ascii_iscased" 256 (.builtin "_sre.ascii_iscased"), ent P "unicode_iscased" 257 (.builtin "_sre.unicode_iscased"), ent P "ascii_tolower" 258 (.builtin "_sre.ascii_tolower"), ent P "unicode_tolower" 259 (.builtin "_sre.unicode_tolower"), ent P "MAGIC" 261 (.int 20230612 260), ent P "CODESIZE" 263 (.int 4 262), ent P "MAXREPEAT" 265 (.int 4294967295 264), ent P "MAXGROUPS" 267 (.int 1073741823 266), ent P "copyright" 269 (.str " SRE 2.2.2 Copyright (c) 1997-2002 by Secret Labs AB " 268)] 17 }
noncomputable def T0 (P : Params) : BT := (.node (ob0 P) (.node (ob1 P) (.node (ob3 P) (.node (ob7 P) (.node (ob7 P) (.node (ob28 P) .nil .nil) .nil) (.node (ob22 P) .nil .nil)) (.node (ob11 P) (.node (ob18 P) .nil .nil) (.node (ob26 P) .nil .nil))) (.node (ob5 P) (.node (ob9 P) (.node (ob16 P) .nil .nil) (.node (ob24 P) .nil .nil)) (.node (ob13 P) (.node (ob20 P) .nil .nil) (.node (ob8 P) .nil .nil)))) (.node (ob2 P) (.node (ob4 P) (.node (ob8 P) (.node (ob15 P) .nil .nil) (.node (ob23 P) .nil .nil)) (.node (ob12 P) (.node (ob19 P) .nil .nil) (.node (ob7 P) .nil .nil))) (.node (ob6 P) (.node (ob10 P) (.node (ob17 P) .nil .nil) (.node (ob25 P) .nil .nil)) (.node (ob14 P) (.node (ob21 P) .nil .nil) (.node (ob27 P) .nil .nil)))))
noncomputable abbrev TS0 (w : World) (os : OsState) : SharedT := ⟨T0 w.params, 32, {}, #[], {}, 282, os⟩
noncomputable def T1 (P : Params) : BT := (.node (ob0 P) (.node (ob1 P) (.node (ob29 P) (.node (ob7 P) (.node (ob7 P) (.node (ob28 P) .nil .nil) .nil) (.node (ob22 P) .nil .nil)) (.node (ob11 P) (.node (ob18 P) (.node (ob7 P) .nil .nil) .nil) (.node (ob26 P) .nil .nil))) (.node (ob5 P) (.node (ob9 P) (.node (ob16 P) (.node (ob8 P) .nil .nil) .nil) (.node (ob24 P) .nil .nil)) (.node (ob13 P) (.node (ob20 P) (.node (ob33 P) .nil .nil) .nil) (.node (ob30 P) .nil .nil)))) (.node (ob2 P) (.node (ob4 P) (.node (ob8 P) (.node (ob15 P) (.node (ob7 P) .nil .nil) .nil) (.node (ob23 P) .nil .nil)) (.node (ob12 P) (.node (ob19 P) (.node (ob32 P) .nil .nil) .nil) (.node (ob7 P) .nil .nil))) (.node (ob6 P) (.node (ob10 P) (.node (ob17 P) (.node (ob31 P) .nil .nil) .nil) (.node (ob25 P) .nil .nil)) (.node (ob14 P) (.node (ob21 P) (.node (ob34 P) .nil .nil) .nil) (.node (ob27 P) .nil .nil)))))
noncomputable abbrev TS1 (w : World) (os : OsState) : SharedT := ⟨T1 w.params, 39, {}, #[], {}, 329, os⟩
noncomputable def T2 (P : Params) : BT := (.node (ob0 P) (.node (ob1 P) (.node (ob35 P) (.node (ob7 P) (.node (ob7 P) (.node (ob28 P) (.node (ob60 P) .nil .nil) .nil) (.node (ob44 P) .nil .nil)) (.node (ob22 P) (.node (ob36 P) (.node (ob68 P) .nil .nil) .nil) (.node (ob52 P) .nil .nil))) (.node (ob11 P) (.node (ob18 P) (.node (ob7 P) (.node (ob64 P) .nil .nil) .nil) (.node (ob48 P) .nil .nil)) (.node (ob26 P) (.node (ob40 P) .nil .nil) (.node (ob56 P) .nil .nil)))) (.node (ob5 P) (.node (ob9 P) (.node (ob16 P) (.node (ob8 P) (.node (ob62 P) .nil .nil) .nil) (.node (ob46 P) .nil .nil)) (.node (ob24 P) (.node (ob38 P) .nil .nil) (.node (ob54 P) .nil .nil))) (.node (ob13 P) (.node (ob20 P) (.node (ob33 P) (.node (ob66 P) .nil .nil) .nil) (.node (ob50 P) .nil .nil)) (.node (ob30 P) (.node (ob42 P) .nil .nil) (.node (ob58 P) .nil .nil))))) (.node (ob2 P) (.node (ob4 P) (.node (ob8 P) (.node (ob15 P) (.node (ob7 P) (.node (ob61 P) .nil .nil) .nil) (.node (ob45 P) .nil .nil)) (.node (ob23 P) (.node (ob37 P) .nil .nil) (.node (ob53 P) .nil .nil))) (.node (ob12 P) (.node (ob19 P) (.node (ob32 P) (.node (ob65 P) .nil .nil) .nil) (.node (ob49 P) .nil .nil)) (.node (ob7 P) (.node (ob41 P) .nil .nil) (.node (ob57 P) .nil .nil)))) (.node (ob6 P) (.node (ob10 P) (.node (ob17 P) (.node (ob31 P) (.node (ob63 P) .nil .nil) .nil) (.node (ob47 P) .nil .nil)) (.node (ob25 P) (.node (ob39 P) .nil .nil) (.node (ob55 P) .nil .nil))) (.node (ob14 P) (.node (ob21 P) (.node (ob34 P) (.node (ob67 P) .nil .nil) .nil) (.node (ob51 P) .nil .nil)) (.node (ob27 P) (.node (ob43 P) .nil .nil) (.node (ob59 P) .nil .nil))))))
noncomputable abbrev TS2 (w : World) (os : OsState) : SharedT := ⟨T2 w.params, 72, {}, #[], {}, 355, os⟩
noncomputable def T3 (P : Params) : BT := (.node (ob0 P) (.node (ob1 P) (.node (ob69 P) (.node (ob7 P) (.node (ob7 P) (.node (ob28 P) (.node (ob60 P) .nil .nil) .nil) (.node (ob44 P) .nil .nil)) (.node (ob22 P) (.node (ob36 P) (.node (ob68 P) .nil .nil) .nil) (.node (ob52 P) .nil .nil))) (.node (ob11 P) (.node (ob18 P) (.node (ob7 P) (.node (ob64 P) .nil .nil) .nil) (.node (ob48 P) .nil .nil)) (.node (ob26 P) (.node (ob40 P) (.node (ob7 P) .nil .nil) .nil) (.node (ob56 P) .nil .nil)))) (.node (ob5 P) (.node (ob9 P) (.node (ob16 P) (.node (ob8 P) (.node (ob62 P) .nil .nil) .nil) (.node (ob46 P) .nil .nil)) (.node (ob24 P) (.node (ob38 P) (.node (ob8 P) .nil .nil) .nil) (.node (ob54 P) .nil .nil))) (.node (ob13 P) (.node (ob20 P) (.node (ob33 P) (.node (ob66 P) .nil .nil) .nil) (.node (ob50 P) .nil .nil)) (.node (ob70 P) (.node (ob42 P) (.node (ob73 P) .nil .nil) .nil) (.node (ob58 P) .nil .nil))))) (.node (ob2 P) (.node (ob4 P) (.node (ob8 P) (.node (ob15 P) (.node (ob7 P) (.node (ob61 P) .nil .nil) .nil) (.node (ob45 P) .nil .nil)) (.node (ob23 P) (.node (ob37 P) (.node (ob7 P) .nil .nil) .nil) (.node (ob53 P) .nil .nil))) (.node (ob12 P) (.node (ob19 P) (.node (ob32 P) (.node (ob65 P) .nil .nil) .nil) (.node (ob49 P) .nil .nil)) (.node (ob7 P) (.node (ob41 P) (.node (ob72 P) .nil .nil) .nil) (.node (ob57 P) .nil .nil)))) (.node (ob6 P) (.node (ob10 P) (.node (ob17 P) (.node (ob31 P) (.node (ob63 P) .nil .nil) .nil) (.node (ob47 P) .nil .nil)) (.node (ob25 P) (.node (ob39 P) (.node (ob71 P) .nil .nil) .nil) (.node (ob55 P) .nil .nil))) (.node (ob14 P) (.node (ob21 P) (.node (ob34 P) (.node (ob67 P) .nil .nil) .nil) (.node (ob51 P) .nil .nil)) (.node (ob27 P) (.node (ob43 P) (.node (ob74 P) .nil .nil) .nil) (.node (ob59 P) .nil .nil))))))
noncomputable abbrev TS3 (w : World) (os : OsState) : SharedT := ⟨T3 w.params, 79, {}, #[], {}, 369, os⟩
noncomputable def T4 (P : Params) : BT := (.node (ob0 P) (.node (ob1 P) (.node (ob75 P) (.node (ob7 P) (.node (ob7 P) (.node (ob28 P) (.node (ob60 P) .nil .nil) .nil) (.node (ob44 P) (.node (ob76 P) .nil .nil) .nil)) (.node (ob22 P) (.node (ob36 P) (.node (ob68 P) .nil .nil) .nil) (.node (ob52 P) .nil .nil))) (.node (ob11 P) (.node (ob18 P) (.node (ob7 P) (.node (ob64 P) .nil .nil) .nil) (.node (ob48 P) (.node (ob79 P) .nil .nil) .nil)) (.node (ob26 P) (.node (ob40 P) (.node (ob7 P) .nil .nil) .nil) (.node (ob56 P) .nil .nil)))) (.node (ob5 P) (.node (ob9 P) (.node (ob16 P) (.node (ob8 P) (.node (ob62 P) .nil .nil) .nil) (.node (ob46 P) (.node (ob77 P) .nil .nil) .nil)) (.node (ob24 P) (.node (ob38 P) (.node (ob8 P) .nil .nil) .nil) (.node (ob54 P) .nil .nil))) (.node (ob13 P) (.node (ob20 P) (.node (ob33 P) (.node (ob66 P) .nil .nil) .nil) (.node (ob50 P) .nil .nil)) (.node (ob70 P) (.node (ob42 P) (.node (ob73 P) .nil .nil) .nil) (.node (ob58 P) .nil .nil))))) (.node (ob2 P) (.node (ob4 P) (.node (ob8 P) (.node (ob15 P) (.node (ob7 P) (.node (ob61 P) .nil .nil) .nil) (.node (ob45 P) (.node (ob6 P) .nil .nil) .nil)) (.node (ob23 P) (.node (ob37 P) (.node (ob7 P) .nil .nil) .nil) (.node (ob53 P) .nil .nil))) (.node (ob12 P) (.node (ob19 P) (.node (ob32 P) (.node (ob65 P) .nil .nil) .nil) (.node (ob49 P) .nil .nil)) (.node (ob7 P) (.node (ob41 P) (.node (ob72 P) .nil .nil) .nil) (.node (ob57 P) .nil .nil)))) (.node (ob6 P) (.node (ob10 P) (.node (ob17 P) (.node (ob31 P) (.node (ob63 P) .nil .nil) .nil) (.node (ob47 P) (.node (ob78 P) .nil .nil) .nil)) (.node (ob25 P) (.node (ob39 P) (.node (ob71 P) .nil .nil) .nil) (.node (ob55 P) .nil .nil))) (.node (ob14 P) (.node (ob21 P) (.node (ob34 P) (.node (ob67 P) .nil .nil) .nil) (.node (ob51 P) .nil .nil)) (.node (ob27 P) (.node (ob43 P) (.node (ob74 P) .nil .nil) .nil) (.node (ob59 P) .nil .nil))))))
noncomputable abbrev TS4 (w : World) (os : OsState) : SharedT := ⟨T4 w.params, 84, {}, #[], {}, 407, os⟩
noncomputable def T5 (P : Params) : BT := (.node (ob0 P) (.node (ob1 P) (.node (ob80 P) (.node (ob7 P) (.node (ob7 P) (.node (ob28 P) (.node (ob60 P) .nil .nil) .nil) (.node (ob44 P) (.node (ob76 P) .nil .nil) .nil)) (.node (ob22 P) (.node (ob36 P) (.node (ob68 P) .nil .nil) .nil) (.node (ob52 P) (.node (ob7 P) .nil .nil) .nil))) (.node (ob11 P) (.node (ob18 P) (.node (ob7 P) (.node (ob64 P) .nil .nil) .nil) (.node (ob48 P) (.node (ob79 P) .nil .nil) .nil)) (.node (ob26 P) (.node (ob40 P) (.node (ob7 P) .nil .nil) .nil) (.node (ob56 P) .nil .nil)))) (.node (ob5 P) (.node (ob9 P) (.node (ob16 P) (.node (ob8 P) (.node (ob62 P) .nil .nil) .nil) (.node (ob46 P) (.node (ob77 P) .nil .nil) .nil)) (.node (ob24 P) (.node (ob38 P) (.node (ob8 P) .nil .nil) .nil) (.node (ob54 P) (.node (ob84 P) .nil .nil) .nil))) (.node (ob13 P) (.node (ob20 P) (.node (ob33 P) (.node (ob66 P) .nil .nil) .nil) (.node (ob50 P) (.node (ob8 P) .nil .nil) .nil)) (.node (ob81 P) (.node (ob42 P) (.node (ob73 P) .nil .nil) .nil) (.node (ob58 P) .nil .nil))))) (.node (ob2 P) (.node (ob4 P) (.node (ob8 P) (.node (ob15 P) (.node (ob7 P) (.node (ob61 P) .nil .nil) .nil) (.node (ob45 P) (.node (ob6 P) .nil .nil) .nil)) (.node (ob23 P) (.node (ob37 P) (.node (ob7 P) .nil .nil) .nil) (.node (ob53 P) (.node (ob83 P) .nil .nil) .nil))) (.node (ob12 P) (.node (ob19 P) (.node (ob32 P) (.node (ob65 P) .nil .nil) .nil) (.node (ob49 P) (.node (ob7 P) .nil .nil) .nil)) (.node (ob7 P) (.node (ob41 P) (.node (ob72 P) .nil .nil) .nil) (.node (ob57 P) .nil .nil)))) (.node (ob6 P) (.node (ob10 P) (.node (ob17 P) (.node (ob31 P) (.node (ob63 P) .nil .nil) .nil) (.node (ob47 P) (.node (ob78 P) .nil .nil) .nil)) (.node (ob25 P) (.node (ob39 P) (.node (ob71 P) .nil .nil) .nil) (.node (ob55 P) (.node (ob85 P) .nil .nil) .nil))) (.node (ob14 P) (.node (ob21 P) (.node (ob34 P) (.node (ob67 P) .nil .nil) .nil) (.node (ob51 P) (.node (ob82 P) .nil .nil) .nil)) (.node (ob27 P) (.node (ob43 P) (.node (ob74 P) .nil .nil) .nil) (.node (ob59 P) .nil .nil))))))
noncomputable abbrev TS5 (w : World) (os : OsState) : SharedT := ⟨T5 w.params, 91, {}, #[], {}, 418, os⟩
noncomputable def T6 (P : Params) : BT := (.node (ob0 P) (.node (ob1 P) (.node (ob86 P) (.node (ob7 P) (.node (ob7 P) (.node (ob28 P) (.node (ob60 P) .nil .nil) (.node (ob90 P) .nil .nil)) (.node (ob44 P) (.node (ob76 P) .nil .nil) .nil)) (.node (ob22 P) (.node (ob36 P) (.node (ob68 P) .nil .nil) .nil) (.node (ob52 P) (.node (ob7 P) .nil .nil) .nil))) (.node (ob11 P) (.node (ob18 P) (.node (ob7 P) (.node (ob64 P) .nil .nil) .nil) (.node (ob48 P) (.node (ob79 P) .nil .nil) .nil)) (.node (ob26 P) (.node (ob40 P) (.node (ob7 P) .nil .nil) .nil) (.node (ob56 P) (.node (ob87 P) .nil .nil) .nil)))) (.node (ob5 P) (.node (ob9 P) (.node (ob16 P) (.node (ob8 P) (.node (ob62 P) .nil .nil) .nil) (.node (ob46 P) (.node (ob77 P) .nil .nil) .nil)) (.node (ob24 P) (.node (ob38 P) (.node (ob8 P) .nil .nil) .nil) (.node (ob54 P) (.node (ob84 P) .nil .nil) .nil))) (.node (ob13 P) (.node (ob20 P) (.node (ob33 P) (.node (ob66 P) .nil .nil) .nil) (.node (ob50 P) (.node (ob8 P) .nil .nil) .nil)) (.node (ob81 P) (.node (ob42 P) (.node (ob73 P) .nil .nil) .nil) (.node (ob58 P) (.node (ob89 P) .nil .nil) .nil))))) (.node (ob2 P) (.node (ob4 P) (.node (ob8 P) (.node (ob15 P) (.node (ob7 P) (.node (ob61 P) .nil .nil) .nil) (.node (ob45 P) (.node (ob6 P) .nil .nil) .nil)) (.node (ob23 P) (.node (ob37 P) (.node (ob7 P) .nil .nil) .nil) (.node (ob53 P) (.node (ob83 P) .nil .nil) .nil))) (.node (ob12 P) (.node (ob19 P) (.node (ob32 P) (.node (ob65 P) .nil .nil) .nil) (.node (ob49 P) (.node (ob7 P) .nil .nil) .nil)) (.node (ob7 P) (.node (ob41 P) (.node (ob72 P) .nil .nil) .nil) (.node (ob57 P) (.node (ob88 P) .nil .nil) .nil)))) (.node (ob6 P) (.node (ob10 P) (.node (ob17 P) (.node (ob31 P) (.node (ob63 P) .nil .nil) .nil) (.node (ob47 P) (.node (ob78 P) .nil .nil) .nil)) (.node (ob25 P) (.node (ob39 P) (.node (ob71 P) .nil .nil) .nil) (.node (ob55 P) (.node (ob85 P) .nil .nil) .nil))) (.node (ob14 P) (.node (ob21 P) (.node (ob34 P) (.node (ob67 P) .nil .nil) .nil) (.node (ob51 P) (.node (ob82 P) .nil .nil) .nil)) (.node (ob27 P) (.node (ob43 P) (.node (ob74 P) .nil .nil) .nil) (.node (ob59 P) (.node (ob7 P) .nil .nil) .nil))))))
noncomputable abbrev TS6 (w : World) (os : OsState) : SharedT := ⟨T6 w.params, 96, {}, #[], {}, 564, os⟩
noncomputable def T7 (P : Params) : BT := (.node (ob0 P) (.node (ob1 P) (.node (ob91 P) (.node (ob7 P) (.node (ob7 P) (.node (ob28 P) (.node (ob60 P) (.node (ob7 P) .nil .nil) .nil) (.node (ob90 P) .nil .nil)) (.node (ob44 P) (.node (ob76 P) .nil .nil) (.node (ob8 P) .nil .nil))) (.node (ob22 P) (.node (ob36 P) (.node (ob68 P) .nil .nil) (.node (ob7 P) .nil .nil)) (.node (ob52 P) (.node (ob7 P) .nil .nil) (.node (ob105 P) .nil .nil)))) (.node (ob11 P) (.node (ob18 P) (.node (ob7 P) (.node (ob64 P) .nil .nil) (.node (ob7 P) .nil .nil)) (.node (ob48 P) (.node (ob79 P) .nil .nil) (.node (ob103 P) .nil .nil))) (.node (ob26 P) (.node (ob40 P) (.node (ob7 P) .nil .nil) (.node (ob98 P) .nil .nil)) (.node (ob56 P) (.node (ob87 P) .nil .nil) (.node (ob108 P) .nil .nil))))) (.node (ob5 P) (.node (ob9 P) (.node (ob16 P) (.node (ob8 P) (.node (ob62 P) (.node (ob111 P) .nil .nil) .nil) (.node (ob8 P) .nil .nil)) (.node (ob46 P) (.node (ob77 P) .nil .nil) (.node (ob7 P) .nil .nil))) (.node (ob24 P) (.node (ob38 P) (.node (ob8 P) .nil .nil) (.node (ob97 P) .nil .nil)) (.node (ob54 P) (.node (ob84 P) .nil .nil) (.node (ob106 P) .nil .nil)))) (.node (ob13 P) (.node (ob20 P) (.node (ob33 P) (.node (ob66 P) .nil .nil) (.node (ob95 P) .nil .nil)) (.node (ob50 P) (.node (ob8 P) .nil .nil) (.node (ob7 P) .nil .nil))) (.node (ob92 P) (.node (ob42 P) (.node (ob73 P) .nil .nil) (.node (ob100 P) .nil .nil)) (.node (ob58 P) (.node (ob89 P) .nil .nil) (.node (ob8 P) .nil .nil)))))) (.node (ob2 P) (.node (ob4 P) (.node (ob8 P) (.node (ob15 P) (.node (ob7 P) (.node (ob61 P) (.node (ob110 P) .nil .nil) .nil) (.node (ob7 P) .nil .nil)) (.node (ob45 P) (.node (ob6 P) .nil .nil) (.node (ob101 P) .nil .nil))) (.node (ob23 P) (.node (ob37 P) (.node (ob7 P) .nil .nil) (.node (ob8 P) .nil .nil)) (.node (ob53 P) (.node (ob83 P) .nil .nil) (.node (ob7 P) .nil .nil)))) (.node (ob12 P) (.node (ob19 P) (.node (ob32 P) (.node (ob65 P) .nil .nil) (.node (ob94 P) .nil .nil)) (.node (ob49 P) (.node (ob7 P) .nil .nil) (.node (ob104 P) .nil .nil))) (.node (ob7 P) (.node (ob41 P) (.node (ob72 P) .nil .nil) (.node (ob99 P) .nil .nil)) (.node (ob57 P) (.node (ob88 P) .nil .nil) (.node (ob7 P) .nil .nil))))) (.node (ob6 P) (.node (ob10 P) (.node (ob17 P) (.node (ob31 P) (.node (ob63 P) (.node (ob112 P) .nil .nil) .nil) (.node (ob93 P) .nil .nil)) (.node (ob47 P) (.node (ob78 P) .nil .nil) (.node (ob102 P) .nil .nil))) (.node (ob25 P) (.node (ob39 P) (.node (ob71 P) .nil .nil) (.node (ob7 P) .nil .nil)) (.node (ob55 P) (.node (ob85 P) .nil .nil) (.node (ob107 P) .nil .nil)))) (.node (ob14 P) (.node (ob21 P) (.node (ob34 P) (.node (ob67 P) .nil .nil) (.node (ob96 P) .nil .nil)) (.node (ob51 P) (.node (ob82 P) .nil .nil) (.node (ob8 P) .nil .nil))) (.node (ob27 P) (.node (ob43 P) (.node (ob74 P) .nil .nil) (.node (ob7 P) .nil .nil)) (.node (ob59 P) (.node (ob7 P) .nil .nil) (.node (ob109 P) .nil .nil)))))))
noncomputable abbrev TS7 (w : World) (os : OsState) : SharedT := ⟨T7 w.params, 131, {}, #[], {}, 628, os⟩
noncomputable def T8 (P : Params) : BT := (.node (ob0 P) (.node (ob1 P) (.node (ob113 P) (.node (ob7 P) (.node (ob7 P) (.node (ob28 P) (.node (ob60 P) (.node (ob7 P) .nil .nil) .nil) (.node (ob90 P) (.node (ob7 P) .nil .nil) .nil)) (.node (ob44 P) (.node (ob76 P) (.node (ob121 P) .nil .nil) .nil) (.node (ob8 P) (.node (ob140 P) .nil .nil) .nil))) (.node (ob22 P) (.node (ob36 P) (.node (ob68 P) (.node (ob116 P) .nil .nil) .nil) (.node (ob7 P) (.node (ob135 P) .nil .nil) .nil)) (.node (ob52 P) (.node (ob7 P) (.node (ob126 P) .nil .nil) .nil) (.node (ob105 P) .nil .nil)))) (.node (ob11 P) (.node (ob18 P) (.node (ob7 P) (.node (ob64 P) (.node (ob7 P) .nil .nil) .nil) (.node (ob7 P) (.node (ob133 P) .nil .nil) .nil)) (.node (ob48 P) (.node (ob79 P) (.node (ob123 P) .nil .nil) .nil) (.node (ob103 P) (.node (ob142 P) .nil .nil) .nil))) (.node (ob26 P) (.node (ob40 P) (.node (ob7 P) (.node (ob8 P) .nil .nil) .nil) (.node (ob98 P) (.node (ob137 P) .nil .nil) .nil)) (.node (ob56 P) (.node (ob87 P) (.node (ob7 P) .nil .nil) .nil) (.node (ob108 P) .nil .nil))))) (.node (ob5 P) (.node (ob9 P) (.node (ob16 P) (.node (ob8 P) (.node (ob62 P) (.node (ob111 P) .nil .nil) .nil) (.node (ob8 P) (.node (ob131 P) .nil .nil) .nil)) (.node (ob46 P) (.node (ob77 P) (.node (ob7 P) .nil .nil) .nil) (.node (ob7 P) (.node (ob8 P) .nil .nil) .nil))) (.node (ob24 P) (.node (ob38 P) (.node (ob8 P) (.node (ob118 P) .nil .nil) .nil) (.node (ob97 P) (.node (ob7 P) .nil .nil) .nil)) (.node (ob54 P) (.node (ob84 P) (.node (ob8 P) .nil .nil) .nil) (.node (ob106 P) .nil .nil)))) (.node (ob13 P) (.node (ob20 P) (.node (ob33 P) (.node (ob66 P) (.node (ob115 P) .nil .nil) .nil) (.node (ob95 P) (.node (ob8 P) .nil .nil) .nil)) (.node (ob50 P) (.node (ob8 P) (.node (ob124 P) .nil .nil) .nil) (.node (ob7 P) .nil .nil))) (.node (ob114 P) (.node (ob42 P) (.node (ob73 P) (.node (ob7 P) .nil .nil) .nil) (.node (ob100 P) (.node (ob138 P) .nil .nil) .nil)) (.node (ob58 P) (.node (ob89 P) (.node (ob129 P) .nil .nil) .nil) (.node (ob8 P) .nil .nil)))))) (.node (ob2 P) (.node (ob4 P) (.node (ob8 P) (.node (ob15 P) (.node (ob7 P) (.node (ob61 P) (.node (ob110 P) .nil .nil) .nil) (.node (ob7 P) (.node (ob8 P) .nil .nil) .nil)) (.node (ob45 P) (.node (ob6 P) (.node (ob122 P) .nil .nil) .nil) (.node (ob101 P) (.node (ob7 P) .nil .nil) .nil))) (.node (ob23 P) (.node (ob37 P) (.node (ob7 P) (.node (ob117 P) .nil .nil) .nil) (.node (ob8 P) (.node (ob136 P) .nil .nil) .nil)) (.node (ob53 P) (.node (ob83 P) (.node (ob7 P) .nil .nil) .nil) (.node (ob7 P) .nil .nil)))) (.node (ob12 P) (.node (ob19 P) (.node (ob32 P) (.node (ob65 P) (.node (ob8 P) .nil .nil) .nil) (.node (ob94 P) (.node (ob7 P) .nil .nil) .nil)) (.node (ob49 P) (.node (ob7 P) (.node (ob7 P) .nil .nil) .nil) (.node (ob104 P) (.node (ob143 P) .nil .nil) .nil))) (.node (ob7 P) (.node (ob41 P) (.node (ob72 P) (.node (ob119 P) .nil .nil) .nil) (.node (ob99 P) (.node (ob7 P) .nil .nil) .nil)) (.node (ob57 P) (.node (ob88 P) (.node (ob128 P) .nil .nil) .nil) (.node (ob7 P) .nil .nil))))) (.node (ob6 P) (.node (ob10 P) (.node (ob17 P) (.node (ob31 P) (.node (ob63 P) (.node (ob112 P) .nil .nil) .nil) (.node (ob93 P) (.node (ob132 P) .nil .nil) .nil)) (.node (ob47 P) (.node (ob78 P) (.node (ob8 P) .nil .nil) .nil) (.node (ob102 P) (.node (ob141 P) .nil .nil) .nil))) (.node (ob25 P) (.node (ob39 P) (.node (ob71 P) (.node (ob7 P) .nil .nil) .nil) (.node (ob7 P) (.node (ob8 P) .nil .nil) .nil)) (.node (ob55 P) (.node (ob85 P) (.node (ob127 P) .nil .nil) .nil) (.node (ob107 P) .nil .nil)))) (.node (ob14 P) (.node (ob21 P) (.node (ob34 P) (.node (ob67 P) (.node (ob7 P) .nil .nil) .nil) (.node (ob96 P) (.node (ob134 P) .nil .nil) .nil)) (.node (ob51 P) (.node (ob82 P) (.node (ob125 P) .nil .nil) .nil) (.node (ob8 P) .nil .nil))) (.node (ob27 P) (.node (ob43 P) (.node (ob74 P) (.node (ob120 P) .nil .nil) .nil) (.node (ob7 P) (.node (ob139 P) .nil .nil) .nil)) (.node (ob59 P) (.node (ob7 P) (.node (ob130 P) .nil .nil) .nil) (.node (ob109 P) .nil .nil)))))))
noncomputable abbrev TS8 (w : World) (os : OsState) : SharedT := ⟨T8 w.params, 181, {}, #[], {}, 701, os⟩
noncomputable def Tb (P : Params) : BT := (.node (ob0 P) (.node (ob1 P) (.node (ob3 P) (.node (ob7 P) (.node (ob7 P) .nil .nil) (.node (ob22 P) .nil .nil)) (.node (ob11 P) (.node (ob18 P) .nil .nil) (.node (ob26 P) .nil .nil))) (.node (ob5 P) (.node (ob9 P) (.node (ob16 P) .nil .nil) (.node (ob24 P) .nil .nil)) (.node (ob13 P) (.node (ob20 P) .nil .nil) .nil))) (.node (ob2 P) (.node (ob4 P) (.node (ob8 P) (.node (ob15 P) .nil .nil) (.node (ob23 P) .nil .nil)) (.node (ob12 P) (.node (ob19 P) .nil .nil) .nil)) (.node (ob6 P) (.node (ob10 P) (.node (ob17 P) .nil .nil) (.node (ob25 P) .nil .nil)) (.node (ob14 P) (.node (ob21 P) .nil .nil) .nil))))
noncomputable abbrev H0 (P : Params) : Heap := absHeap (Tb P) 28 {}
noncomputable abbrev TSb (w : World) (os : OsState) : SharedT := ⟨Tb w.params, 28, {}, #[], {}, 276, os⟩
noncomputable def Te (P : Params) : BT := (.node (ob0 P) (.node (ob1 P) (.node (ob3 P) (.node (ob7 P) (.node (ob7 P) .nil .nil) (.node (ob22 P) .nil .nil)) (.node (ob144 P) (.node (ob18 P) .nil .nil) (.node (ob26 P) .nil .nil))) (.node (ob5 P) (.node (ob9 P) (.node (ob16 P) .nil .nil) (.node (ob24 P) .nil .nil)) (.node (ob13 P) (.node (ob20 P) .nil .nil) .nil))) (.node (ob2 P) (.node (ob4 P) (.node (ob8 P) (.node (ob15 P) .nil .nil) (.node (ob23 P) .nil .nil)) (.node (ob12 P) (.node (ob19 P) .nil .nil) .nil)) (.node (ob6 P) (.node (ob10 P) (.node (ob17 P) .nil .nil) (.node (ob25 P) .nil .nil)) (.node (ob14 P) (.node (ob21 P) .nil .nil) .nil))))
noncomputable abbrev He (P : Params) : Heap := absHeap (Te P) 28 {}
noncomputable abbrev TSe (w : World) (os : OsState) : SharedT := ⟨Te w.params, 28, {}, #[], {}, 276, os⟩
noncomputable abbrev H9 (P : Params) : Heap := absHeap (T8 P) 181 {}
noncomputable abbrev pF : Program := PySem.Challenge.pw_ik0117_01
noncomputable def bF : List Stmt := behindTheImports pF
noncomputable def envF : Env := { scope := pF.main.scope, locals := mainNs, globals := mainNs, cells := [], code := .ref 30, frame := some 31 }
noncomputable def cF : Code := .body bF envF
noncomputable abbrev BF : List Frame := [topFrame ⟨0, 0, 0, 0⟩]
noncomputable abbrev annF : Option Value := some (.ref 6)
/-- the opening, over a tree of objects -/
noncomputable def impEndsT (tb : String → Option Builtin) (p : Program) (w : World) : Nat → SharedT → Thread → Option SharedT
  | 0, _, _ => none
  | n + 1, s, t => match t.atExitBegin with
    | some [] => some s
    | some (_ :: _) => none
    | none => match stepT (denote tb) p w s t with
      | some (s', t') => impEndsT tb p w n s' t'
      | none => none
theorem impEnds_of {tb : String → Option Builtin} {p : Program} {w : World} : ∀ {n : Nat} {s s' : SharedT} {t : Thread}, impEndsT tb p w n s t = some s' → importEnds tb p w n s.abs t = some s'.abs
  | 0, _, _, _, h => by cases h
  | n + 1, s, s', t, h => by
    unfold impEndsT at h
    unfold importEnds
    cases he : t.atExitBegin with
    | some x =>
      rw [he] at h
      cases x with
      | nil => cases h; rfl
      | cons a l => cases h
    | none =>
      rw [he] at h
      cases hs : stepT (denote tb) p w s t with
      | none => rw [hs] at h; cases h
      | some r => obtain ⟨s₂, t₂⟩ := r; rw [hs] at h; dsimp only; rw [stepT_spec hs]; exact impEnds_of h
noncomputable abbrev os0F : OsState := (start (opening pF)).1.os
theorem run_start : (start (opening pF)).1 = (⟨.nil, 0, {}, #[], {}, 1, os0F⟩ : SharedT).abs := by kernel_rfl
theorem run_imp (w : World) : impEndsT treeTable (opening pF) w 2300 ⟨.nil, 0, {}, #[], {}, 1, os0F⟩ (start (opening pF)).2 = some (TSe w os0F) := by kernel_rfl
theorem run_fence (w : World) : (fun os => (fenceModules? pF ⟨He w.params, #[], {}, 276, os⟩).map (fun s => (s.heap, s.gens, s.drawn, s.toks))) = fun _ => some (H0 w.params, #[], {}, 276) := by kernel_rfl
theorem run_open (w : World) : (fencedOpening treeTable pF w 4600).map (fun s => (s.heap, s.gens, s.drawn, s.toks)) = some (H0 w.params, #[], {}, 276) :=
  open_cut (He := He) (H₀ := H0) (M := 2300) (fun w => by
    have k := impEnds_of (run_imp w)
    rw [← run_start] at k
    exact k) (by decide) run_fence w
theorem run_size (w : World) : ((H0 w.params).isNs mainGlobals && (#[] : Array GenState).size == 0, (H0 w.params).objs.size, (H0 w.params).nsMap mainGlobals "__annotations__") = (true, 28, annF) := by kernel_rfl
theorem run_pre (w : World) (os : OsState) : topGo treeTable pF w 28 annF 12 (TSb w os).abs (topStub pF) = some ((TS0 w os).abs, ⟨denote treeTable cF, cF, ⟨0, 0, 0, 0⟩, BF⟩) := by kernel_rfl
theorem run_blk (w : World) (os : OsState) : segRun treeTable pF w 28 annF 1 1 (TS0 w os).abs (blockOf bF envF cF ⟨0, 0, 0, 0⟩ BF) = some (.next, (TS0 w os).abs, cF, ⟨0, 0, 0, 0⟩) := by kernel_rfl
theorem run_0 (w : World) (os : OsState) : segRunT treeTable pF w 28 annF 1 230 (TS0 w os) (piecesOf ((bF.drop 0).take 21) envF cF ⟨0, 0, 0, 0⟩ BF) = some (.next, TS1 w os, cF, ⟨23, 0, 23, 7⟩) := by kernel_rfl
theorem run_1 (w : World) (os : OsState) : segRunT treeTable pF w 28 annF 1 180 (TS1 w os) (piecesOf ((bF.drop 21).take 1) envF cF ⟨23, 0, 23, 7⟩ BF) = some (.next, TS2 w os, cF, ⟨24, 0, 24, 15⟩) := by kernel_rfl
theorem run_2 (w : World) (os : OsState) : segRunT treeTable pF w 28 annF 1 60 (TS2 w os) (piecesOf ((bF.drop 22).take 2) envF cF ⟨24, 0, 24, 15⟩ BF) = some (.next, TS3 w os, cF, ⟨42, 0, 42, 8⟩) := by kernel_rfl
theorem run_3 (w : World) (os : OsState) : segRunT treeTable pF w 28 annF 1 100 (TS3 w os) (piecesOf ((bF.drop 24).take 1) envF cF ⟨42, 0, 42, 8⟩ BF) = some (.next, TS4 w os, cF, ⟨43, 0, 43, 10⟩) := by kernel_rfl
theorem run_4 (w : World) (os : OsState) : segRunT treeTable pF w 28 annF 1 60 (TS4 w os) (piecesOf ((bF.drop 25).take 2) envF cF ⟨43, 0, 43, 10⟩ BF) = some (.next, TS5 w os, cF, ⟨48, 0, 48, 8⟩) := by kernel_rfl
noncomputable def RunF (w : World) : Prop := ∀ os : OsState, segRunT treeTable pF w 28 annF 1 1300 (TS5 w os) (piecesOf ((bF.drop 27).take 1) envF cF ⟨48, 0, 48, 8⟩ BF) = some (.next, TS6 w os, cF, ⟨49, 0, 49, 18⟩)
theorem run_5ff (w : World) : RunF ((w.withFollow "special-get-raises" false).withFollow "comprehension-iter-twice" false) := fun os => by kernel_rfl
theorem run_5ft (w : World) : RunF ((w.withFollow "special-get-raises" false).withFollow "comprehension-iter-twice" true) := fun os => by kernel_rfl
theorem run_5tf (w : World) : RunF ((w.withFollow "special-get-raises" true).withFollow "comprehension-iter-twice" false) := fun os => by kernel_rfl
theorem run_5tt (w : World) : RunF ((w.withFollow "special-get-raises" true).withFollow "comprehension-iter-twice" true) := fun os => by kernel_rfl
theorem run_5 (w : World) : RunF w := byRow2 "comprehension-iter-twice" (P := RunF)
  (fun w => byRow2 "special-get-raises" (P := fun v => RunF (v.withFollow "comprehension-iter-twice" false)) run_5ff run_5tf w)
  (fun w => byRow2 "special-get-raises" (P := fun v => RunF (v.withFollow "comprehension-iter-twice" true)) run_5ft run_5tt w) w
theorem run_6 (w : World) (os : OsState) : segRunT treeTable pF w 28 annF 1 220 (TS6 w os) (piecesOf ((bF.drop 28).take 8) envF cF ⟨49, 0, 49, 18⟩ BF) = some (.next, TS7 w os, cF, ⟨150, 0, 155, 16⟩) := by kernel_rfl
theorem run_7 (w : World) (os : OsState) : segRunT treeTable pF w 28 annF 1 270 (TS7 w os) (piecesOf ((bF.drop 36).take 8) envF cF ⟨150, 0, 155, 16⟩ BF) = some (.next, TS8 w os, cF, ⟨201, 0, 219, 121⟩) := by kernel_rfl
theorem run_fin (w : World) (os : OsState) : topRun treeTable pF w 28 annF 2 (TS8 w os).abs ⟨doneF .next, cF, ⟨201, 0, 219, 121⟩, BF⟩ = some (TS8 w os).abs := by kernel_rfl
theorem bF_eq : ((bF.drop 0).take 21 ++ ((bF.drop 21).take 1 ++ ((bF.drop 22).take 2 ++ ((bF.drop 24).take 1 ++ ((bF.drop 25).take 2 ++ ((bF.drop 27).take 1 ++ ((bF.drop 28).take 8 ++ ((bF.drop 36).take 8 ++ [])))))))) = bF := by kernel_rfl
theorem run_all (w : World) (os : OsState) : topRun treeTable pF w 28 annF (12 + (1 + (230 + (180 + (60 + (100 + (60 + (1300 + (220 + (270 + 2)))))))))) (TSb w os).abs (topStub pF) = some (TS8 w os).abs := by
  have k := (piece_app (segRun_of (run_0 w os)) (piece_app (segRun_of (run_1 w os)) (piece_app (segRun_of (run_2 w os)) (piece_app (segRun_of (run_3 w os)) (piece_app (segRun_of (run_4 w os)) (piece_app (segRun_of (run_5 w os)) (piece_app (segRun_of (run_6 w os)) (piece_app (segRun_of (run_7 w os)) (piece_nil (run_fin w os))))))))))
  rw [bF_eq] at k
  exact go_top (run_pre w os) (piece_block (run_blk w os) k)
theorem run_looks (w : World) : (fun os : OsState => ((staticsOk (importedModules pF.main.body) (H0 w.params) (H9 w.params) && namesBound pF (H9 w.params) && gensDone (TS8 w os).abs && laidKept (H0 w.params) (H9 w.params)),
        openSeen viewF looseF (importedModules pF.main.body) lookF true (TS8 w os).abs, hookF.obs (TS8 w os).abs)) = fun _ => (true, openGood viewF looseF, hookF.val w) := by kernel_rfl
theorem left_ok : LeftO rowF.prog viewF looseF lookF hookF.obs hookF.val 4600 :=
  LeftO.of_pieces (H₀ := H0) (H₁ := H9) (gs₀ := #[]) (gs₁ := #[]) (d₀ := {}) (d₁ := {}) (k₀ := 276) (k₁ := 701) (m₀ := 28) (ann := annF) (M := 12 + (1 + (230 + (180 + (60 + (100 + (60 + (1300 + (220 + (270 + 2)))))))))) run_open run_size run_all (by decide) run_looks
end Mine
namespace Mine
open MineP
noncomputable abbrev lF : OpenLaw := PySem.Challenge.rw_ik0117_01
theorem sd_a1 : sreFenced lF.prog.main = true := by kernel_rfl
theorem sd_a2 : ((moduleNames lF.prog.main.body).isEmpty || lookedIntoSs (moduleNames lF.prog.main.body) lF.prog.main.body) = true := by kernel_rfl
theorem sd_a3 : namesResolve lF.prog = true := by kernel_rfl
theorem sd_a4 : lF.prog.boundNames.all (fun n => !worldNames.contains n) = true := by kernel_rfl
theorem sd_a5 : noRoadLSs { strict := !(importedModules lF.prog.main.body).all cThrough.contains, foot := none, bare := (["vars", "dir", "locals"] : List Str).filter (readsOut lF.prog lF.prog.main.body) } lF.prog.main.body = true := by kernel_rfl
theorem sd_a6 : (namesMeet lF.prog lF.prog.main.body fun _ n => attrL n) = true := by kernel_rfl
theorem sd_looks : looksOpen lF.row.prog = true := look_both (look_both (look_both (look_both (look_both sd_a1 sd_a2) sd_a3) sd_a4) sd_a5) sd_a6
theorem sd_part : lF.row.partSaid = true :=
  look_both (look_both (look_both (look_both (look_both (look_both (look_both (look_both (look_both (look_both (look_both (look_both (look_both sd_looks (by kernel_rfl)) (by kernel_rfl)) (by kernel_rfl)) (by kernel_rfl)) (by kernel_rfl)) (by kernel_rfl)) (by kernel_rfl)) (by kernel_rfl)) (by kernel_rfl)) (by kernel_rfl)) (by kernel_rfl)) (by kernel_rfl)) (by kernel_rfl)
theorem sd_s1 : lF.row.wellSaid = true := look_both (look_both sd_part (by kernel_rfl)) (by kernel_rfl)
theorem sd_s2 : decide (lF.foot ≤ (behindTheImports lF.prog).length) = true := by kernel_rfl
theorem sd_s3 : lF.footing.all footLine = true := by kernel_rfl
theorem sd_s4 : noClassBlock lF.prog lF.footing = true := by kernel_rfl
theorem sd_s5 : lF.most.all (fun n => decide (63 ≤ n)) = true := by kernel_rfl
theorem sd_s6 : lF.bound.all (fun n => decide (2 ^ 63 ≤ n)) = true := by kernel_rfl
theorem sd_s7 : noRoadLSs { strict := true, foot := some lF.bound', writes := lF.writes, may := lF.may } lF.footing = true := by kernel_rfl
theorem sd_s8 : defStands lF.about lF.above = true := by kernel_rfl
theorem sd_s9 : lF.namesIt = true := by kernel_rfl
theorem sd_s10 : (["type", "isinstance", "issubclass", "getattr", "hasattr"] : List Str).all (fun n => lF.about != [n]) = true := by kernel_rfl
theorem sd_s11 : lF.bound'.all (fun n => !builtinNamed n || lF.about == [n] || !lF.reads n) = true := by kernel_rfl
theorem sd_s12 : (!lF.writes || (lF.prog.main.body.flatMap importedNames).all fun n => !lF.reads n) = true := by kernel_rfl
theorem sd_s13 : (lF.prog.main.body.flatMap importedNames).all (fun n => !lF.reads n || (drawsOf n lF.prog.main.body).all fun mn => mn.2 != ("attrgetter" : Str) && mn.2 != ("methodcaller" : Str)) = true := by kernel_rfl
theorem sd_s14 : namesMeet lF.prog lF.footing (fun sc n => (!(["type", "isinstance", "issubclass", "getattr", "hasattr"] : List Str).contains n || sc.names.lookup n == some .globalImplicit) &&
    (lF.may != some n || sc.kind == .module || sc.names.lookup n == some .globalImplicit)) = true := by kernel_rfl
theorem sd_s15 : lF.own.contains lF.name = true := by kernel_rfl
theorem sd_s16 : (lF.own.eraseDups.length == lF.own.length) = true := by kernel_rfl
theorem sd_s17 : lF.own.all (fun n => !builtinNamed n) = true := by kernel_rfl
theorem sd_s18 : namesMeet lF.prog lF.above (fun _ n => !lF.own.contains n) = true := by kernel_rfl
theorem sd_s19 : (namesMeet lF.prog lF.footing fun sc n => sc.kind == .module || sc.names.lookup n != some .globalExplicit) = true := by kernel_rfl
theorem said_ok : PySem.Challenge.rw_ik0117_01.wellSaid = true :=
  look_both (look_both (look_both (look_both (look_both (look_both (look_both (look_both (look_both (look_both (look_both (look_both (look_both (look_both (look_both (look_both (look_both (look_both sd_s1 sd_s2) sd_s3) sd_s4) sd_s5) sd_s6) sd_s7) sd_s8) sd_s9) sd_s10) sd_s11) sd_s12) sd_s13) sd_s14) sd_s15) sd_s16) sd_s17) sd_s18) sd_s19
end Mine
namespace Mine
open MineP
section
variable {w : World} {h : Heap} {mg mb : Str → Option Value} {p : Program} {loose : List Str} {mean : ExcName → Option Value}
theorem bi_ok {x : Str} {v : Value} (KX : (heapF w.params).In h) (T : Top p loose mean mg mb h) (h1 : nsIn (heapF w.params) mainGlobals x = some none) (h2 : bootBuiltins x = some v) (h3 : x ≠ "__name__") : mg x = none ∧ mb x = some v :=
  ⟨mg_none_of KX T.g h1, (T.builtins x h3).trans h2⟩
theorem fn_at {a i : Nat} {ps : List Str} {cd : Value} {x : Str} (KX : (heapF w.params).In h) (T : Top p loose mean mg mb h) (d : DefPC (XW w h mg mb) a i ps cd) (h1 : nsIn (heapF w.params) mainGlobals x = some (some (.ref a))) : mg x = some (.ref a) ∧ DefP (XW w h mg mb) a i ps :=
  ⟨mg_of KX T.g h1, d.p⟩
theorem pg_ok (KX : (heapF w.params).In h) (hT : TabsAt tabsH h) (T : Top p loose mean mg mb h) : Pg (XW w h mg mb) := by
  have KG : (heapF w.params).In (ghostOf h tabsH) := ghost_K hT KX (by kernel_rfl)
  exact {
    x := wok hT T
    b_range := bi_ok KX T (by kernel_rfl) (by kernel_rfl) (by decide +kernel)
    b_min := bi_ok KX T (by kernel_rfl) (by kernel_rfl) (by decide +kernel)
    b_max := bi_ok KX T (by kernel_rfl) (by kernel_rfl) (by decide +kernel)
    b_len := bi_ok KX T (by kernel_rfl) (by kernel_rfl) (by decide +kernel)
    b_isi := bi_ok KX T (by kernel_rfl) (by kernel_rfl) (by decide +kernel)
    b_sorted := bi_ok KX T (by kernel_rfl) (by kernel_rfl) (by decide +kernel)
    b_enum := bi_ok KX T (by kernel_rfl) (by kernel_rfl) (by decide +kernel)
    b_zip := bi_ok KX T (by kernel_rfl) (by kernel_rfl) (by decide +kernel)
    b_object := bi_ok KX T (by kernel_rfl) (by kernel_rfl) (by decide +kernel)
    b_int := bi_ok KX T (by kernel_rfl) (by kernel_rfl) (by decide +kernel)
    b_bool := bi_ok KX T (by kernel_rfl) (by kernel_rfl) (by decide +kernel)
    b_str := bi_ok KX T (by kernel_rfl) (by kernel_rfl) (by decide +kernel)
    f_ifmt := fn_at KX T (def_ifmt KG) (by kernel_rfl)
    f_filemode := fn_at KX T (def_filemode KG) (by kernel_rfl)
    f_translate := fn_at KX T (def_translate KG) (by kernel_rfl)
    f_escape := fn_at KX T (def_escape KG) (by kernel_rfl)
    f_tr := fn_at KX T (def_tr KG) (by kernel_rfl)
    f_join := fn_at KX T (def_join KG) (by kernel_rfl)
    f_strcoll := fn_at KX T (def_strcoll KG) (by kernel_rfl)
    f_ranks := fn_at KX T (def_ranks KG) (by kernel_rfl)
    f_mode := fn_at KX T (def_mode KG) (by kernel_rfl)
    f_pattern := fn_at KX T (def_pattern KG) (by kernel_rfl)
    f_sign := fn_at KX T (def_sign KG) (by kernel_rfl)
    f_ranges := fn_at KX T (def_ranges KG) (by kernel_rfl)
    f_takes := fn_at KX T (def_takes KG) (by kernel_rfl)
    f_between := fn_at KX T (def_between KG) (by kernel_rfl)
    f_ordered := fn_at KX T (def_ordered KG) (by kernel_rfl)
    t_fm := ⟨mg_of KX T.g (by kernel_rfl), fm_ok2 KG⟩
    t_map := ⟨mg_of KX T.g (by kernel_rfl), map_ok KG _⟩
    c_tr := def_tr KG
    maker := maker_ok hT T
    t_re := ⟨mg_of KX T.g (by kernel_rfl), re_ok KG⟩ }
theorem fn_law {X : Wd} (hP : Pg X) (hd : DefP X 180 44 ["script"]) (n : Nat) (ns : List Int) (hl : ns.length ≤ 63) : FnS X (n + 4) (.ref 180) [.list (iL ns)] (.bool true) := by
  refine FnS.body (n := n + 3) (lay := layL) (glob := globLw) (k := 13) hP.x hd rfl (by decide +kernel) (by decide +kernel) rfl rfl fun g eX en hF => ?_
  subst eX
  exact law_body hP en hF ns hl
theorem caller_ok : AOk 4 callerA := ⟨rfl, by decide +kernel, by decide +kernel⟩
theorem intsAre_dens' {W : List Addr} {hp : Heap} {vs : List Value} {ns : List Int} (r : IntsAre vs ns) : Dens W hp vs (iL ns) := intsAre_dens r
/-- the law, called behind its top -/
theorem law_run {s₁ : Shared} (KX : (heapF w.params).In s₁.heap) (hT : TabsAt tabsH s₁.heap) (T : Top p loose mean mg mb s₁.heap) (hg : s₁.gens = #[]) {l fa : Addr} {vs : List Value} {ns : List Int} (hl : s₁.heap.IsList l vs.toArray) (hi : IntsAre vs ns) (hn : ns.length ≤ 63) (hf : mg "law" = some (.ref fa)) {Q : Value → Shared → Prop} {E : Value → Shared → Prop}
    (hQ : ∀ s', Ext [104] s₁ s' → (∃ ps, s'.heap.get? 104 = some (tabObj ps)) → AllBare s'.gens → Q (.bool true) s') : wpAny (model PySem.Challenge.rw_ik0117_01.row.prog w) callerA (call (.ref fa) [.ref l]) Q E s₁ := by
  have KG : (heapF w.params).In (ghostOf s₁.heap tabsH) := ghost_K hT KX (by kernel_rfl)
  have hP : Pg (XW w s₁.heap mg mb) := pg_ok KX hT T
  have e : mg "law" = some (.ref 180) := mg_of KX T.g (by kernel_rfl)
  rw [hf] at e
  cases e
  have h104 := (hT _ (.head _)).2
  have hne : l ≠ 104 := fun q => by
    obtain ⟨o, e, hc, _⟩ := hl
    rw [q, h104] at e; cases e; cases hc
  have bs : Bs (XW w s₁.heap mg mb) s₁ := ⟨fun a o e => of_hideAll _ e, ⟨_, h104, trivial⟩, .of_eq hg⟩
  refine wpAny_call (fn_law hP (def_law KG).p 0 ns hn callerA s₁ [104] [.ref l] _ caller_ok bs (.head _) (fun a m => by
      rw [List.mem_singleton.mp m]
      exact ⟨hideAll_none _ (.head _), _, h104⟩) (.cons (.list (fun m => hne (List.mem_singleton.mp m)) hl (intsAre_dens' hi)) .nil) fun v s' x b d => by
        cases d
        exact hQ s' x (let ⟨ps, e, _⟩ := b.tab; ⟨ps, e⟩) b.bare)
theorem law_good {s₁ s' : Shared} (hT : TabsAt tabsH s₁.heap) {cl : Str → Option Addr} {mean' : ExcName → Option Value} {xs : List PyData} (x : Ext [104] s₁ s') (hg : ∃ ps, s'.heap.get? 104 = some (tabObj ps)) (hb : AllBare s'.gens) :
    GoodWG PySem.Challenge.rw_ik0117_01.row.claim cl mean' [ofPy (.list xs)] s₁ (.ok (.ret (.bool true))) s' := by
  have h104 := hT _ (.head _)
  have keep : ∀ b o, b ≠ 104 → s₁.heap.get? b = some o → s'.heap.get? b = some o := fun b o n e => x.keep b o (fun m => n (List.mem_singleton.mp m)) e
  obtain ⟨ps, hP⟩ := hg
  refine ⟨.inl ⟨.bool true, .bool true, [], rfl, fun _ => rfl, .bool true, by kernel_rfl, fun _ => ⟨.nil, fun a m => nomatch m⟩⟩, ⟨fun b o e => ?_, fun b o e => x.dom b o e⟩, x.os, hb⟩
  by_cases q : b = 104
  · subst q
    have e2 : s₁.heap.get? 104 = some (tabObj #[]) := h104.2
    rw [e] at e2
    cases e2
    exact .inr (.inl ⟨(h104.1.tab h104.2).isCodeTable, rfl, #[], ps, rfl, by rw [Array.empty_append]; exact hP⟩)
  · exact .inl (keep b o q e)
theorem tabs_ok {s : Shared} (KX : (heapF w.params).In s.heap) (h8 : ∀ P ∈ [104], s.heap.get? P = some (tabObj #[])) : TabsAt tabsH s.heap := fun q hq => by
  rw [List.mem_singleton.mp hq]
  exact ⟨codeHd_of_K KX (by kernel_rfl), h8 104 (.head _)⟩
end
end Mine
set_option maxHeartbeats 8000000 in
theorem PySem.Challenge.cw_ik0117_01_holds : PySem.Challenge.rw_ik0117_01.Holds := by
  w_on
  refine holds_law Mine.said_ok fun said => ?_
  refine PySem.W.holds_open (q := Mine.viewF) (loose := Mine.looseF) (Xt := Mine.lookF) (XP := XL Mine.viewF []) (Yf := Mine.hookF.obs) (Ya := Mine.hookF.val) (YP := Mine.hookF.says) (N := 4600) Mine.left_ok Mine.hookF.of Mine.hookF.keeps (fun s e => xl_of s (Bool.and_eq_true_iff.mp e).1) XL.keeps (by rfl) (by rfl) (by rfl) (fun s e => recFacts_of (Bool.and_eq_true_iff.mp e).2) (by rfl) said (by decide +kernel) ⟨rfl, rfl, rfl, rfl, rfl, by decide +kernel⟩ ?hw ?hc
  case hw => w_witness2
  case hc =>
    intro w s₀ s₁ mg mb G Y fa o pm cd doc dV kV ho hd hcd hD hmg hg args vals as hpre hlay hrd hwl hlo
    have KX := km_in_of Y
    have hT9 := Mine.tabs_ok KX (km_tabs_of Y)
    wrow_args hpre hlay hrd hwl hlo
    exact Mine.law_run KX hT9 G.T hg (by assumption) (by assumption) (by omega) hmg fun s' x g b => Mine.law_good hT9 x g b
